import JvmDerived
import JvmDerived.Pilot.@@N@@Statement
import JvmDerived.Pilot.@@N@@Code
set_option linter.unusedVariables false
set_option linter.unusedSimpArgs false
namespace Jvm.OwnW
open Sem ClassFile Op Lib Jvm.Free Jvm.Stand Jvm.LawKit Jvm.RoadKit Jvm.Free.XT
/-! ## a walk's fixed data, and what is asked of the rest of it -/
abbrev Cx : Type := Program × Launch × Env × Room × State × MethodId × Array Value × List Frame × Method × Code
abbrev Cx.p (x : Cx) : Program := x.1
abbrev Cx.l (x : Cx) : Launch := x.2.1
abbrev Cx.e (x : Cx) : Env := x.2.2.1
abbrev Cx.R (x : Cx) : Room := x.2.2.2.1
abbrev Cx.s (x : Cx) : State := x.2.2.2.2.1
abbrev Cx.m (x : Cx) : MethodId := x.2.2.2.2.2.1
abbrev Cx.args (x : Cx) : Array Value := x.2.2.2.2.2.2.1
abbrev Cx.below (x : Cx) : List Frame := x.2.2.2.2.2.2.2.1
abbrev Cx.meth (x : Cx) : Method := x.2.2.2.2.2.2.2.2.1
abbrev Cx.c (x : Cx) : Code := x.2.2.2.2.2.2.2.2.2
abbrev Sd (x : Cx) (T : State) (locs : List Loc) (k n : Nat) : Prop := Stand x.p x.l x.e x.R x.s x.m x.args x.below x.meth x.c T locs k n
/-- what is known of a walk of the method nm (of the class own) over the tables of Z -/
def Ok (x : Cx) (Z : State) (own nm : String) (bytes : ByteArray) (ml : Nat) (rt : Option FieldType) (R : Room) : Prop :=
  x.p.tables.exec = Jvm.exec ∧ x.c.code = bytes ∧ x.c.maxLocals = ml ∧ x.s.vm.findClass own = some x.m.cls ∧ x.meth.name = nm ∧ Z.Warmed39 x.s.vm ∧ x.meth.sig.returnType = rt ∧ x.meth.locks = false ∧ x.R = R
abbrev Post : Type := Option Value → Heap → Prop
def Done (x : Cx) (n0 : Nat) (Q : Post) (U : State) : Prop :=
  ∃ s₂ o, Steps x.p.tables x.e x.below U s₂ ∧ s₂.status = .running ∧ Ended s₂ x.below o ∧ ∃ v L, o = .returned v ∧ (Q v s₂.heap ∧ Fr n0 L) ∧ FrameEnd x.s o s₂ L x.R.cells x.R.slots
/-- from here (heap h; k cells and n slots made so far; the frame) the walk comes to its end, and Q holds of it -/
def WP (x : Cx) (n0 : Nat) (Q : Post) (h : Heap) (k n : Nat) (pc : Nat) (L : Array Slot) (S : List Value) : Prop :=
  ∀ T locs, Sd x T locs k n → T.heap = h → Fr n0 locs → Done x n0 Q (T.setTop (mkF x.m pc L S))
/-- a method's contract at one heap and one list of arguments -/
def Con (l : Launch) (Z : State) (y : MethodName) (bytes : ByteArray) (maxL : Nat) (ret : Option FieldType) (rm : Room) (as : Array Value) (h : Heap) (n0 : Nat) (Q : Post) (ws : List Jvm.Cond) : Prop :=
  MetFree l y (head1 (Jvm.Cond.code y bytes maxL ret :: ws) rm) (fun a U => a = as ∧ Z.Warmed39 U.vm ∧ U.heap = h) (fun _ _ _ _ _ => True) (fun _ U o U' => ∃ v L, o = .returned v ∧ (Q v U'.heap ∧ Fr n0 L) ∧ FrameEnd U o U' L rm.cells rm.slots)
theorem wd {ts : List Jvm.Cond} {a0 : Array Value} {Z : State} (hw : ∀ d ∈ ts, d.before a0 Z = true) (k : Nat) {d : Jvm.Cond} (h : ts[k]? = some d) : d.before a0 Z = true := hw d (List.mem_of_getElem? h)
theorem ne_new {h : Heap} {a b : Addr} (hb : b < h.size) (e : a = h.size) : b ≠ a := by rw [e]; exact Nat.ne_of_lt hb
theorem Fld_c {Z : State} {h : Heap} {a : Addr} {O n d : String} {v w : Value} (F : Fld Z h a O n d v) (e : v = w) : Fld Z h a O n d w := e ▸ F
section Rules
variable {x : Cx} {Z : State} {own nm : String} {bytes : ByteArray} {ml : Nat} {rt : Option FieldType} {R : Room} {n0 : Nat} {Q : Post} {h : Heap} {k n : Nat} {pc pc' : Nat} {L L' : Array Slot} {S S' rest : List Value} {a0 : Array Value} {a : Addr} {v : Value}
theorem con_of_wp {l : Launch} {y : MethodName} {as : Array Value} {L0 : Array Slot} {ws : List Jvm.Cond} (pn : plainFor y = true) (ef : ∀ m, entryFrame m as ml = mkF m 0 L0 [])
    (H : ∀ x : Cx, x.l = l → Ok x Z y.cls y.name bytes ml rt R → WP x n0 Q h 0 0 0 L0 []) : Con l Z y bytes ml rt R as h n0 Q ws := by
  refine MetFree.of_bodySF pn hisR ?_
  intro p e s m args below meth c s₁ Bd hml0 hP hK
  obtain ⟨rfl, hZ, hh⟩ := hP
  have X0 : Stand p l e R s m args below meth c s₁ [] 0 0 := Stand.of_body Bd
  have e0 : s₁.heap = h := by rw [← hh, Bd.state]; rfl
  have ok : Ok (p, l, e, R, s, m, args, below, meth, c) Z y.cls y.name bytes ml rt R := ⟨Bd.exec, Bd.bytes, hml0, findClass_of_methodNamed Bd.named, (name_of_methodNamed Bd.named Bd.method).1, hZ, Bd.returns, Bd.notSynchronized, rfl⟩
  obtain ⟨s₂, o, h1, h2, h3, h4⟩ := H (p, l, e, R, s, m, args, below, meth, c) rfl ok s₁ [] X0 e0 (Fr.nil n0)
  exact ⟨s₂, o, castTop (ef m) h1, h2, h3, h4⟩
theorem wp_more {k' n' : Nat} (hk : k ≤ k') (hn : n ≤ n') (w : WP x n0 Q h k' n' pc L S) : WP x n0 Q h k n pc L S := fun T locs X e N => w T locs (X.more hk hn) e N
theorem wp_steps (st : ∀ T locs target, Sd x T locs k n → T.heap = h → Steps x.p.tables x.e x.below (T.setTop (mkF x.m pc' L' S')) target → Steps x.p.tables x.e x.below (T.setTop (mkF x.m pc L S)) target) (w : WP x n0 Q h k n pc' L' S') : WP x n0 Q h k n pc L S := fun T locs X e N => by
  obtain ⟨s₂, o, h1, r⟩ := w T locs X e N
  exact ⟨s₂, o, st T locs _ X e h1, r⟩
/-! ## returns -/
theorem wp_done {v' : Option Value} (ok : Ok x Z own nm bytes ml rt R) (hk : k ≤ R.cells) (hn : n ≤ R.slots) (hv : rt = none → v' = none) (hq : Q v' h)
    (st : ∀ T locs fs, Sd x T locs k n → (∀ (f : JFrame) (acts : List Action), f.method = x.m → f.locked = none → f.entered = [] → (doReturn x.e (T.setTop f) acts v').1 = T.setFrames fs) → Steps x.p.tables x.e x.below (T.setTop (mkF x.m pc L S)) (T.setFrames fs)) : WP x n0 Q h k n pc L S := fun T locs X e N => by
  obtain ⟨hx, hby, hml, hown, hnm, hZ, hrt, hlk, hR⟩ := ok
  have hlocks : x.meth.locks = false := hlk
  obtain ⟨fs, hr, hrun, hended, hW, hsame⟩ := X.leave (v := v') (fun q => hv (hrt.symm.trans q)) hlocks
  refine ⟨_, _, st T locs fs X hr, hrun, hended, _, locs, rfl, ⟨?_, N⟩, ⟨_, rfl⟩, hW, hsame.mono (by rw [hR]; exact hk) (by rw [hR]; exact hn)⟩
  show Q v' T.heap
  rw [e]; exact hq
theorem wp_retV (ok : Ok x Z own nm bytes ml none R) (hd : decode bytes pc = .ok (.return_, 1)) (hk : k ≤ R.cells) (hn : n ≤ R.slots) (hq : Q none h) : WP x n0 Q h k n pc L [] :=
  wp_done ok hk hn (fun _ => rfl) hq fun T locs fs X hr => X.returnOut ok.1 ok.2.2.2.2.2.2.1 (hb ok.2.1 hd) hr
theorem wp_retZ {z : Int32} {t : FieldType} (ok : Ok x Z own nm bytes ml (some t) R) (ht : t = .boolean ∨ t = .byte ∨ t = .char ∨ t = .short) (hd : decode bytes pc = .ok (.ireturn, 1)) (hk : k ≤ R.cells) (hn : n ≤ R.slots) (hq : Q (some (.int (nar t z))) h) : WP x n0 Q h k n pc L (.int z :: rest) :=
  wp_done ok hk hn (fun q => nomatch q) hq fun T locs fs X hr => retN X ok.1 ok.2.2.2.2.2.2.1 ht (hb ok.2.1 hd) hr
theorem wp_retI {z : Int32} (ok : Ok x Z own nm bytes ml (some .int) R) (hd : decode bytes pc = .ok (.ireturn, 1)) (hk : k ≤ R.cells) (hn : n ≤ R.slots) (hq : Q (some (.int z)) h) : WP x n0 Q h k n pc L (.int z :: rest) :=
  wp_done ok hk hn (fun q => nomatch q) hq fun T locs fs X hr => retOut X ok.1 ok.2.2.2.2.2.2.1 (w := .int z) rfl (Or.inl ⟨rfl, Or.inl rfl, z, rfl⟩) (hb ok.2.1 hd) hr
theorem wp_retJ {z : Int64} (ok : Ok x Z own nm bytes ml (some .long) R) (hd : decode bytes pc = .ok (.lreturn, 1)) (hk : k ≤ R.cells) (hn : n ≤ R.slots) (hq : Q (some (.long z)) h) : WP x n0 Q h k n pc L (.long z :: rest) :=
  wp_done ok hk hn (fun q => nomatch q) hq fun T locs fs X hr => retOut X ok.1 ok.2.2.2.2.2.2.1 (w := .long z) rfl (Or.inr (Or.inl ⟨rfl, rfl, z, rfl⟩)) (hb ok.2.1 hd) hr
theorem wp_retA {w : Value} {t : FieldType} (ok : Ok x Z own nm bytes ml (some t) R) (ht : t.isReference = true) (hw : w.isRef = true) (hd : decode bytes pc = .ok (.areturn, 1)) (hk : k ≤ R.cells) (hn : n ≤ R.slots) (hq : Q (some w) h) : WP x n0 Q h k n pc L [w] :=
  wp_done ok hk hn (fun q => nomatch q) hq fun T locs fs X hr => X.areturnOut ok.1 hw ok.2.2.2.2.2.2.1 ht (hb ok.2.1 hd) hr
/-! ## the heap -/
theorem wp_getF {O nf d : String} {index : Nat} (ok : Ok x Z own nm bytes ml rt R) (w : (Jvm.Cond.fieldLink own index O nf d).before a0 Z = true) (F : Fld Z h a O nf d v) (hd : decode bytes pc = .ok (.getfield index, 3)) (hw : WP x n0 Q h k n (pc + 3) L (v :: rest)) : WP x n0 Q h k n pc L (.ref a :: rest) := fun T locs X e N => by
  obtain ⟨T', X', e', st⟩ := getF X ok.1 ok.2.2.2.2.2.1 ok.2.2.2.1 (host := "") (Or.inl w) Via.refl e F (g := mkF x.m pc L (.ref a :: rest)) rfl rfl (hb ok.2.1 hd)
  obtain ⟨s₂, o, h1, r⟩ := hw T' locs X' e' N
  exact ⟨s₂, o, st _ h1, r⟩
theorem wp_putF {O nf d C : String} {index kk : Nat} {ty : FieldType} {old : Value} (ok : Ok x Z own nm bytes ml rt R) (w : (Jvm.Cond.fieldLink own index O nf d).before a0 Z = true) (F : Fld Z h a O nf d old) (E : Exa Z h a C)
    (Ly : (Jvm.Cond.lays C O nf d).before a0 Z = true ∨ ((Jvm.Cond.laysFinal C O nf d).before a0 Z = true ∧ own = O ∧ nm = "<init>")) (wi : (Jvm.Cond.instantiable C kk).before a0 Z = true) (hty : parseFieldDescriptor d = some ty) (hnw : narrow ty v = v) (hf : fits ty v = true) (hd : decode bytes pc = .ok (.putfield index, 3)) (ha : n0 ≤ a)
    (hw : ∀ h', Wr h h' a (Jvm.RoadKit.slotOf Z O nf d) v → WP x n0 Q h' k n (pc + 3) L rest) : WP x n0 Q h k n pc L (v :: .ref a :: rest) := fun T locs X e N => by
  obtain ⟨T', h', X', e', W, st⟩ := putF X ok.1 ok.2.2.2.2.2.1 ok.2.2.2.1 (host := "") (Or.inl w) Via.refl e F E (Ly.imp id fun q => ⟨q.1, q.2.1, ok.2.2.2.2.1.trans q.2.2⟩) wi hty hnw hf (g := mkF x.m pc L (v :: .ref a :: rest)) rfl rfl (hb ok.2.1 hd)
  obtain ⟨s₂, o, h1, r⟩ := hw h' W T' _ X' e' (Fr.snoc X' N ha)
  exact ⟨s₂, o, st _ h1, r⟩
theorem wp_new {C : String} {index sz : Nat} (ok : Ok x Z own nm bytes ml rt R) (w : (Jvm.Cond.classLink own index C).before a0 Z = true) (wi : (Jvm.Cond.instantiable C sz).before a0 Z = true) (wz : (Jvm.Cond.initialized C).before a0 Z = true) (hd : decode bytes pc = .ok (.new index, 3)) (hk : k + 1 ≤ R.cells) (hn : n + sz ≤ R.slots)
    (hw : ∀ h' a, a = h.size → Ext h h' → Exa Z h' a C → (∀ {O nf d : String} {ty : FieldType}, Laid Z a0 C O nf d → parseFieldDescriptor d = some ty → Fld Z h' a O nf d (defaultValue ty)) → WP x n0 Q h' (k + 1) (n + sz) (pc + 3) L (.ref a :: S)) : WP x n0 Q h k n pc L S := fun T locs X e N => by
  obtain ⟨T', h', X', e', E, A, D, -, st⟩ := newO X ok.1 ok.2.2.2.2.2.1 ok.2.2.2.1 w wi wz e (g := mkF x.m pc L S) rfl (hb ok.2.1 hd) (by rw [ok.2.2.2.2.2.2.2.2]; exact hk) (by rw [ok.2.2.2.2.2.2.2.2]; exact hn)
  obtain ⟨s₂, o, h1, r⟩ := hw h' h.size rfl E A D T' _ X' e' N
  exact ⟨s₂, o, st _ h1, r⟩
theorem wp_initO {index : Nat} (ok : Ok x Z own nm bytes ml rt R) (w1 : (Jvm.Cond.methodLink own index Lib.objectInit).before a0 Z = true) (w2 : (Jvm.Cond.instanceMethod Lib.objectInit).before a0 Z = true) (w3 : (Jvm.Cond.code Lib.objectInit ⟨#[0xb1]⟩ 1 none).before a0 Z = true) (hL : L.size = ml)
    (hd : decode bytes pc = .ok (.invokespecial index, 3)) (hf : 1 ≤ R.frames) (hl : (rest.map fun v => v.category).sum + 12 ≤ R.locals) (hw : WP x n0 Q h k n (pc + 3) L rest) : WP x n0 Q h k n pc L (.ref a :: rest) := fun T locs X e N => by
  obtain ⟨T', X', e', st⟩ := initO X ok.1 ok.2.2.2.2.2.1 ok.2.2.2.1 w1 w2 w3 e (g := mkF x.m pc L (.ref a :: rest)) rfl (by show L.size = _; rw [ok.2.2.1]; exact hL) rfl (hb ok.2.1 hd) (by rw [ok.2.2.2.2.2.2.2.2]; exact hf) (W := (rest.map fun v => v.category).sum) (by show 2 * 0 + _ ≤ _; omega) (by rw [ok.2.2.2.2.2.2.2.2]; exact hl)
  obtain ⟨s₂, o, h1, r⟩ := hw T' locs X' e' N
  exact ⟨s₂, o, st _ h1, r⟩
/-! ## calls by contract -/
theorem wp_static {y : MethodName} {cb : ByteArray} {cm : Nat} {cr : Option FieldType} {rm : Room} {index : Nat} {argsL : List Value} {Q' : Post} {ps : List FieldType} (ok : Ok x Z own nm bytes ml rt R) (w1 : (Jvm.Cond.methodLink own index y).before a0 Z = true) (w2 : (Jvm.Cond.static y).before a0 Z = true) (w3 : (Jvm.Cond.initialized y.cls).before a0 Z = true) (w4 : (Jvm.Cond.code y cb cm cr).before a0 Z = true)
    (hy : y.cls ≠ "java/lang/invoke/MethodHandle" ∧ y.cls ≠ "java/lang/invoke/VarHandle") (C : Con x.l Z y cb cm cr rm argsL.toArray h n0 Q' []) (pd : parseMethodDescriptor y.desc = some ⟨ps, cr⟩) (hlen : argsL.length = ps.length) (hst : S = argsL.reverse ++ rest) (hL : L.size = ml) (hd : decode bytes pc = .ok (.invokestatic index, 3))
    (hf : rm.frames + 1 ≤ R.frames) (hl : (rest.map fun v => v.category).sum + (cm + 11) + rm.locals ≤ R.locals) (hk : k + rm.cells ≤ R.cells) (hn : n + rm.slots ≤ R.slots)
    (hw : ∀ v h', Q' v h' → WP x n0 Q h' (k + rm.cells) (n + rm.slots) (pc + 3) L (v.toList ++ rest)) : WP x n0 Q h k n pc L S := fun T locs X e N => by
  have hZ := ok.2.2.2.2.2.1
  have hR := ok.2.2.2.2.2.2.2.2
  obtain ⟨v, _, ⟨T', L2, k2, n2⟩, -, X', ⟨Lc, hQ, l1, y1, z1⟩, st⟩ := Jvm.LawKit.callS X ok.1 (y := y) ok.2.2.2.1 (mvT hZ w1) (mvT hZ w2) (mvT hZ w3) (mvT hZ w4) hy (backOf (W := (rest.map fun v => v.category).sum) (Q := fun v h L => Q' v h ∧ Fr n0 L) C hZ w4 w3 (by rw [hR]; exact hf) (by rw [hR]; exact hl)) (g := mkF x.m pc L S) rfl (by show L.size = _; rw [ok.2.2.1]; exact hL) (argsL := argsL) (rest := rest) (lenOf pd hlen) hst (by show 2 * 0 + _ ≤ _; omega) (hb ok.2.1 hd) (fun _ _ => ⟨rfl, e, by rw [hR]; exact hk, by rw [hR]; exact hn⟩)
  dsimp only [Pt.U, Pt.locs, Pt.cells, Pt.slots] at X' l1 y1 z1 st hQ
  subst l1 y1 z1
  obtain ⟨s₂, o, h1, r⟩ := hw v _ hQ.1 T' _ X' rfl (Fr.app N hQ.2)
  exact ⟨s₂, o, st _ h1, r⟩
theorem wp_special {y : MethodName} {cb : ByteArray} {cm : Nat} {rm : Room} {index : Nat} {argsL : List Value} {Q' : Post} {ps : List FieldType} (ok : Ok x Z own nm bytes ml rt R) (hy1 : y.name = "<init>") (w1 : (Jvm.Cond.methodLink own index y).before a0 Z = true) (w2 : (Jvm.Cond.instanceMethod y).before a0 Z = true) (w3 : (Jvm.Cond.initialized y.cls).before a0 Z = true) (w4 : (Jvm.Cond.code y cb cm none).before a0 Z = true)
    (hy : y.cls ≠ "java/lang/invoke/MethodHandle" ∧ y.cls ≠ "java/lang/invoke/VarHandle") (C : Con x.l Z y cb cm none rm (Value.ref a :: argsL).toArray h n0 Q' []) (pd : parseMethodDescriptor y.desc = some ⟨ps, none⟩) (hlen : argsL.length = ps.length) (hst : S = argsL.reverse ++ .ref a :: rest) (hL : L.size = ml) (hd : decode bytes pc = .ok (.invokespecial index, 3))
    (hf : rm.frames + 1 ≤ R.frames) (hl : (rest.map fun v => v.category).sum + (cm + 11) + rm.locals ≤ R.locals) (hk : k + rm.cells ≤ R.cells) (hn : n + rm.slots ≤ R.slots)
    (hw : ∀ v h', Q' v h' → WP x n0 Q h' (k + rm.cells) (n + rm.slots) (pc + 3) L (v.toList ++ rest)) : WP x n0 Q h k n pc L S := fun T locs X e N => by
  have hZ := ok.2.2.2.2.2.1
  have hR := ok.2.2.2.2.2.2.2.2
  obtain ⟨v, _, ⟨T', L2, k2, n2⟩, -, X', ⟨Lc, hQ, l1, y1, z1⟩, st⟩ := X.specialBack ok.1 (y := y) hy1 ok.2.2.2.1 (mvT hZ w1) (mvT hZ w2) (mvT hZ w4) hy (backOf (W := (rest.map fun v => v.category).sum) (Q := fun v h L => Q' v h ∧ Fr n0 L) C hZ w4 w3 (by rw [hR]; exact hf) (by rw [hR]; exact hl)) (g := mkF x.m pc L S) rfl (by show L.size = _; rw [ok.2.2.1]; exact hL) (Steps.refl _) (a := a) (argsL := argsL) (rest := rest) (lenOf pd hlen) hst (by show 2 * 0 + _ ≤ _; omega) (hb ok.2.1 hd) (fun _ _ => ⟨rfl, e, by rw [hR]; exact hk, by rw [hR]; exact hn⟩)
  dsimp only [Pt.U, Pt.locs, Pt.cells, Pt.slots] at X' l1 y1 z1 st hQ
  subst l1 y1 z1
  obtain ⟨s₂, o, h1, r⟩ := hw v _ hQ.1 T' _ X' rfl (Fr.app N hQ.2)
  exact ⟨s₂, o, st.trans h1, r⟩
theorem wp_virtual {y : MethodName} {cb : ByteArray} {cm : Nat} {cr : Option FieldType} {rm : Room} {index : Nat} {argsL : List Value} {Q' : Post} {ps : List FieldType} {C : String} (ok : Ok x Z own nm bytes ml rt R) (w1 : (Jvm.Cond.methodLink own index y).before a0 Z = true) (w5 : (Jvm.Cond.declares y).before a0 Z = true) (w6 : (Jvm.Cond.selects C y y).before a0 Z = true) (w2 : (Jvm.Cond.instanceMethod y).before a0 Z = true) (w3 : (Jvm.Cond.initialized y.cls).before a0 Z = true) (w4 : (Jvm.Cond.code y cb cm cr).before a0 Z = true)
    (hy : y.cls ≠ "java/lang/invoke/MethodHandle" ∧ y.cls ≠ "java/lang/invoke/VarHandle") (E : Exa Z h a C) (Cn : Con x.l Z y cb cm cr rm (Value.ref a :: argsL).toArray h n0 Q' []) (pd : parseMethodDescriptor y.desc = some ⟨ps, cr⟩) (hlen : argsL.length = ps.length) (hst : S = argsL.reverse ++ .ref a :: rest) (hL : L.size = ml) (hd : decode bytes pc = .ok (.invokevirtual index, 3))
    (hf : rm.frames + 1 ≤ R.frames) (hl : (rest.map fun v => v.category).sum + (cm + 11) + rm.locals ≤ R.locals) (hk : k + rm.cells ≤ R.cells) (hn : n + rm.slots ≤ R.slots)
    (hw : ∀ v h', Q' v h' → WP x n0 Q h' (k + rm.cells) (n + rm.slots) (pc + 3) L (v.toList ++ rest)) : WP x n0 Q h k n pc L S := fun T locs X e N => by
  have hZ := ok.2.2.2.2.2.1
  have hR := ok.2.2.2.2.2.2.2.2
  obtain ⟨cq, kq, qa, qb, qc⟩ := isOf (T := T) (s := x.s) hZ e E
  obtain ⟨v, _, ⟨T', L2, k2, n2⟩, -, X', ⟨Lc, hQ, l1, y1, z1⟩, st⟩ := X.virtualBack ok.1 (y := y) (z := y) ok.2.2.2.1 (mvT hZ w1) (mvT hZ w5) (notFace_of_selects (args := #[]) (mvT hZ w6)) (mvT hZ w6) (mvT hZ w2) hy (backOf (W := (rest.map fun v => v.category).sum) (Q := fun v h L => Q' v h ∧ Fr n0 L) Cn hZ w4 w3 (by rw [hR]; exact hf) (by rw [hR]; exact hl)) qa qc (g := mkF x.m pc L S) rfl (by show L.size = _; rw [ok.2.2.1]; exact hL) (Steps.refl _) (argsL := argsL) (rest := rest) (lenOf pd hlen) hst (by show 2 * 0 + _ ≤ _; omega) (hb ok.2.1 hd) (fun _ _ => ⟨rfl, e, by rw [hR]; exact hk, by rw [hR]; exact hn⟩)
  dsimp only [Pt.U, Pt.locs, Pt.cells, Pt.slots] at X' l1 y1 z1 st hQ
  subst l1 y1 z1
  obtain ⟨s₂, o, h1, r⟩ := hw v _ hQ.1 T' _ X' rfl (Fr.app N hQ.2)
  exact ⟨s₂, o, st.trans h1, r⟩
/-! ## arrays -/
theorem wp_newA {aty : ArrayType} {z : Int32} {cap : Nat} (ok : Ok x Z own nm bytes ml rt R) (w : (Jvm.Cond.arrayClass (newarray.typeOf aty)).before a0 Z = true) (hd : decode bytes pc = .ok (.newarray aty, 2)) (hz : ¬ z < 0) (hcap : z.toNatClampNeg ≤ cap) (hb8 : cap * 8 ≤ 536870912) (hk : k + 1 ≤ R.cells) (hn : n + cap ≤ R.slots)
    (hw : ∀ h' a cA, a = h.size → Ext h h' → Arr Z h' a (newA cA (newarray.typeOf aty) z) (newarray.typeOf aty) → WP x n0 Q h' (k + 1) (n + cap) (pc + 2) L (.ref a :: rest)) : WP x n0 Q h k n pc L (.int z :: rest) := fun T locs X e N => by
  obtain ⟨T', h', cA, X', e', E, A, st⟩ := newP X ok.1 ok.2.2.2.2.2.1 w e (g := mkF x.m pc L (.int z :: rest)) rfl (hb ok.2.1 hd) rfl hz hcap hb8 (by rw [ok.2.2.2.2.2.2.2.2]; exact hk) (by rw [ok.2.2.2.2.2.2.2.2]; exact hn)
  obtain ⟨s₂, o, h1, r⟩ := hw h' _ cA rfl E A T' _ X' e' N
  exact ⟨s₂, o, st _ h1, r⟩
theorem wp_stI {cl : Cell} {j z : Int32} (ok : Ok x Z own nm bytes ml rt R) (A : Arr Z h a cl .int) (hj : ¬ (j < 0 ∨ cl.slots.size ≤ j.toNatClampNeg)) (hd : decode bytes pc = .ok (.iastore, 1)) (ha : n0 ≤ a)
    (hw : ∀ h', Wr h h' a j.toNatClampNeg (.int z) → WP x n0 Q h' k n (pc + 1) L rest) : WP x n0 Q h k n pc L (.int z :: .int j :: .ref a :: rest) := fun T locs X e N => by
  obtain ⟨T', h', X', e', W, st⟩ := stI X ok.1 ok.2.2.2.2.2.1 e A hj (g := mkF x.m pc L (.int z :: .int j :: .ref a :: rest)) rfl rfl (hb ok.2.1 hd)
  obtain ⟨s₂, o, h1, r⟩ := hw h' W T' _ X' e' (Fr.snoc X' N ha)
  exact ⟨s₂, o, st _ h1, r⟩
theorem wp_stJ {cl : Cell} {j : Int32} {z : Int64} (ok : Ok x Z own nm bytes ml rt R) (A : Arr Z h a cl .long) (hj : ¬ (j < 0 ∨ cl.slots.size ≤ j.toNatClampNeg)) (hd : decode bytes pc = .ok (.lastore, 1)) (ha : n0 ≤ a)
    (hw : ∀ h', Wr h h' a j.toNatClampNeg (.long z) → WP x n0 Q h' k n (pc + 1) L rest) : WP x n0 Q h k n pc L (.long z :: .int j :: .ref a :: rest) := fun T locs X e N => by
  obtain ⟨T', h', X', e', W, st⟩ := stJ X ok.1 ok.2.2.2.2.2.1 e A hj (g := mkF x.m pc L (.long z :: .int j :: .ref a :: rest)) rfl rfl (hb ok.2.1 hd)
  obtain ⟨s₂, o, h1, r⟩ := hw h' W T' _ X' e' (Fr.snoc X' N ha)
  exact ⟨s₂, o, st _ h1, r⟩
theorem wp_ldI {cl : Cell} {j : Int32} (ok : Ok x Z own nm bytes ml rt R) (A : Arr Z h a cl .int) (hj : ¬ (j < 0 ∨ cl.slots.size ≤ j.toNatClampNeg)) (hv : cl.slots[j.toNatClampNeg]? = some v) (hd : decode bytes pc = .ok (.iaload, 1)) (hw : WP x n0 Q h k n (pc + 1) L (v :: rest)) : WP x n0 Q h k n pc L (.int j :: .ref a :: rest) :=
  wp_steps (fun T locs target X e hr => X.iaload ok.1 (by rw [e]; exact A.1) (State.isArrayOf_alike ok.2.2.2.2.2.1.alike A.2.1) A.2.2 hj hv (g := mkF x.m pc L (.int j :: .ref a :: rest)) rfl rfl (hb ok.2.1 hd) target hr) hw
theorem wp_ldJ {cl : Cell} {j : Int32} (ok : Ok x Z own nm bytes ml rt R) (A : Arr Z h a cl .long) (hj : ¬ (j < 0 ∨ cl.slots.size ≤ j.toNatClampNeg)) (hv : cl.slots[j.toNatClampNeg]? = some v) (hd : decode bytes pc = .ok (.laload, 1)) (hw : WP x n0 Q h k n (pc + 1) L (v :: rest)) : WP x n0 Q h k n pc L (.int j :: .ref a :: rest) :=
  wp_steps (fun T locs target X e hr => X.laload ok.1 (by rw [e]; exact A.1) (State.isArrayOf_alike ok.2.2.2.2.2.1.alike A.2.1) A.2.2 hj hv (g := mkF x.m pc L (.int j :: .ref a :: rest)) rfl rfl (hb ok.2.1 hd) target hr) hw
theorem wp_ldB {cl : Cell} {j : Int32} (ok : Ok x Z own nm bytes ml rt R) (A : Arr Z h a cl .byte) (hj : ¬ (j < 0 ∨ cl.slots.size ≤ j.toNatClampNeg)) (hv : cl.slots[j.toNatClampNeg]? = some v) (hd : decode bytes pc = .ok (.baload, 1)) (hw : WP x n0 Q h k n (pc + 1) L (v :: rest)) : WP x n0 Q h k n pc L (.int j :: .ref a :: rest) :=
  wp_steps (fun T locs target X e hr => X.baloadBytes ok.1 (by rw [e]; exact A.1) (State.isArrayOf_alike ok.2.2.2.2.2.1.alike A.2.1) A.2.2 hj hv (g := mkF x.m pc L (.int j :: .ref a :: rest)) rfl rfl (hb ok.2.1 hd) target hr) hw
theorem wp_ldZ {cl : Cell} {j : Int32} (ok : Ok x Z own nm bytes ml rt R) (A : Arr Z h a cl .boolean) (hj : ¬ (j < 0 ∨ cl.slots.size ≤ j.toNatClampNeg)) (hv : cl.slots[j.toNatClampNeg]? = some v) (hd : decode bytes pc = .ok (.baload, 1)) (hw : WP x n0 Q h k n (pc + 1) L (v :: rest)) : WP x n0 Q h k n pc L (.int j :: .ref a :: rest) :=
  wp_steps (fun T locs target X e hr => X.baloadBooleans ok.1 (by rw [e]; exact A.1) (State.isArrayOf_alike ok.2.2.2.2.2.1.alike A.2.1) A.2.2 hj hv (g := mkF x.m pc L (.int j :: .ref a :: rest)) rfl rfl (hb ok.2.1 hd) target hr) hw
theorem wp_len {cl : Cell} {ty : FieldType} (ok : Ok x Z own nm bytes ml rt R) (A : Arr Z h a cl ty) (hd : decode bytes pc = .ok (.arraylength, 1)) (hw : WP x n0 Q h k n (pc + 1) L (.int cl.slots.size.toInt32 :: rest)) : WP x n0 Q h k n pc L (.ref a :: rest) :=
  wp_steps (fun T locs target X e hr => X.arraylength ok.1 (by rw [e]; exact A.1) (State.isArrayOf_alike ok.2.2.2.2.2.1.alike A.2.1) (g := mkF x.m pc L (.ref a :: rest)) rfl rfl (hb ok.2.1 hd) target hr) hw
end Rules
end Jvm.OwnW
namespace Jvm.OwnW
open Jvm.RoadKit
theorem c_lmod (x y : Int64) (d : Int) (hy : y.toInt = d) : (0 ≤ x.toInt → (x % y).toInt = x.toInt % d) ∧ (x.toInt < 0 → (x % y).toInt = -((-x.toInt) % d)) := by rw [← lrem_mod]; exact c_lrem x y d hy
theorem x_ladd {x y : Int64} (h1 : -9223372036854775808 ≤ x.toInt + y.toInt) (h2 : x.toInt + y.toInt < 9223372036854775808) : (x + y).toInt = x.toInt + y.toInt := by
  have := c_ladd x y; have := (x + y).toInt_lt; have := (x + y).le_toInt; omega
theorem x_lsub {x y : Int64} (h1 : -9223372036854775808 ≤ x.toInt - y.toInt) (h2 : x.toInt - y.toInt < 9223372036854775808) : (x - y).toInt = x.toInt - y.toInt := by
  have := c_lsub x y; have := (x - y).toInt_lt; have := (x - y).le_toInt; omega
theorem x_lmul {x y : Int64} (h1 : -9223372036854775808 ≤ x.toInt * y.toInt) (h2 : x.toInt * y.toInt < 9223372036854775808) : (x * y).toInt = x.toInt * y.toInt := by
  have q := c_lmul x y; have := (x * y).toInt_lt; have := (x * y).le_toInt
  generalize x.toInt * y.toInt = p at *; omega
theorem x_iadd {x y : Int32} (h1 : -2147483648 ≤ x.toInt + y.toInt) (h2 : x.toInt + y.toInt < 2147483648) : (x + y).toInt = x.toInt + y.toInt := by
  have := c_iadd x y; have := (x + y).toInt_lt; have := (x + y).le_toInt; omega
theorem x_isub {x y : Int32} (h1 : -2147483648 ≤ x.toInt - y.toInt) (h2 : x.toInt - y.toInt < 2147483648) : (x - y).toInt = x.toInt - y.toInt := by
  have := c_isub x y; have := (x - y).toInt_lt; have := (x - y).le_toInt; omega
theorem x_imul {x y : Int32} (h1 : -2147483648 ≤ x.toInt * y.toInt) (h2 : x.toInt * y.toInt < 2147483648) : (x * y).toInt = x.toInt * y.toInt := by
  have q := c_imul x y; have := (x * y).toInt_lt; have := (x * y).le_toInt
  generalize x.toInt * y.toInt = p at *; omega
theorem nar01 {z : Int32} (h : z = 0 ∨ z = 1) : nar .boolean z = z := by rcases h with rfl | rfl <;> rfl
end Jvm.OwnW
namespace Jvm.OwnW
open Sem ClassFile Op Lib Jvm.Free Jvm.Stand Jvm.LawKit Jvm.RoadKit Jvm.Free.XT
/-! ## plain steps, by evaluation: a block of instructions from a frame to a frame, with the props that it asks (a branch's direction, a divisor) -/
def ush (x y : Int32) : Int32 := (x.toUInt32 >>> (y &&& 31).toUInt32).toInt32
def ushL (x : Int64) (y : Int32) : Int64 := (x.toUInt64 >>> (y &&& 63).toInt64.toUInt64).toInt64
theorem c_ush (x q : Int32) (k : Nat) (hk : q.toBitVec.toNat % 32 = k) (h0 : 0 < k) : (ush x q).toInt = (x.toInt % 4294967296) / (2 ^ k : Nat) := c_iushr x q k hk h0
theorem c_ushL (x : Int64) (q : Int32) (k : Nat) (hk : q.toBitVec.toNat % 64 = k) (h0 : 0 < k) : (ushL x q).toInt = (x.toInt % 18446744073709551616) / (2 ^ k : Nat) := c_lushr x q k hk h0
abbrev Res : Type := Option (List Prop × Nat × Array Slot × List Value)
def bin32 (f : Int32 → Int32 → Int32) (pc : Nat) (L : Array Slot) : List Value → Res
  | .int y :: .int z :: r => some ([], pc + 1, L, .int (f z y) :: r)
  | _ => none
def bin64 (f : Int64 → Int64 → Int64) (pc : Nat) (L : Array Slot) : List Value → Res
  | .long y :: .long z :: r => some ([], pc + 1, L, .long (f z y) :: r)
  | _ => none
def sh64 (f : Int64 → Int32 → Int64) (pc : Nat) (L : Array Slot) : List Value → Res
  | .int y :: .long z :: r => some ([], pc + 1, L, .long (f z y) :: r)
  | _ => none
def un32 (f : Int32 → Value) (pc : Nat) (L : Array Slot) : List Value → Res
  | .int z :: r => some ([], pc + 1, L, f z :: r)
  | _ => none
def un64 (f : Int64 → Value) (pc : Nat) (L : Array Slot) : List Value → Res
  | .long z :: r => some ([], pc + 1, L, f z :: r)
  | _ => none
def ldK (ok : Value → Bool) (i pc' : Nat) (L : Array Slot) (S : List Value) : Res :=
  match L[i]? with
  | some (.val v) => if ok v = true then some ([], pc', L, v :: S) else none
  | _ => none
def stK (ok : Value → Bool) (i pc' : Nat) (L : Array Slot) : List Value → Res
  | v :: r => if ok v = true then (match storeLocals L i v with | some L' => some ([], pc', L', r) | none => none) else none
  | [] => none
def isI : Value → Bool | .int _ => true | _ => false
def isJ : Value → Bool | .long _ => true | _ => false
def constI : Option Value → Option Int32 | some (.int z) => some z | _ => none
def constJ : Option Value → Option Int64 | some (.long z) => some z | _ => none
def look (K : List (Nat × Value)) (i : Nat) : Option Value := match K with
  | [] => none
  | (j, v) :: r => if j = i then some v else look r i
def jump (pc : Nat) (o : Int) : Option Nat := if 0 ≤ (pc : Int) + o then some ((pc : Int) + o).toNat else none
def br (p : Prop) (b : Bool) (pc : Nat) (o : Int) (L : Array Slot) (S : List Value) : Res :=
  if b = true then (match jump pc o with | some q => some ([p], q, L, S) | none => none) else some ([p], pc + 3, L, S)
def stp (K : List (Nat × Value)) (b : Bool) (i : Instr) (pc : Nat) (L : Array Slot) (S : List Value) : Res :=
  match i with
  | .iconst z => some ([], pc + 1, L, .int (Int32.ofInt z) :: S)
  | .bipush z => some ([], pc + 2, L, .int (Int8.ofInt z).toInt32 :: S)
  | .sipush z => some ([], pc + 3, L, .int (Int16.ofInt z).toInt32 :: S)
  | .lconst z => some ([], pc + 1, L, .long (Int64.ofNat z) :: S)
  | .aconst_null => some ([], pc + 1, L, .null :: S)
  | .ldc j => (match constI (look K j) with | some z => some ([], pc + 2, L, .int z :: S) | none => none)
  | .ldc2_w j => (match constJ (look K j) with | some z => some ([], pc + 3, L, .long z :: S) | none => none)
  | .iload_n j => ldK isI j.val (pc + 1) L S
  | .iload j => ldK isI j (pc + 2) L S
  | .lload_n j => ldK isJ j.val (pc + 1) L S
  | .lload j => ldK isJ j (pc + 2) L S
  | .aload_n j => ldK Value.isRef j.val (pc + 1) L S
  | .aload j => ldK Value.isRef j (pc + 2) L S
  | .istore_n j => stK isI j.val (pc + 1) L S
  | .istore j => stK isI j (pc + 2) L S
  | .lstore_n j => stK isJ j.val (pc + 1) L S
  | .lstore j => stK isJ j (pc + 2) L S
  | .astore_n j => stK Value.isRef j.val (pc + 1) L S
  | .astore j => stK Value.isRef j (pc + 2) L S
  | .iadd => bin32 (fun z y => z + y) pc L S
  | .isub => bin32 (fun z y => z - y) pc L S
  | .imul => bin32 (fun z y => z * y) pc L S
  | .iand => bin32 (fun z y => z &&& y) pc L S
  | .ior => bin32 (fun z y => z ||| y) pc L S
  | .ixor => bin32 (fun z y => z ^^^ y) pc L S
  | .ishl => bin32 (fun z y => z <<< (y &&& 31)) pc L S
  | .ishr => bin32 (fun z y => z >>> (y &&& 31)) pc L S
  | .iushr => bin32 (fun z y => ush z y) pc L S
  | .ladd => bin64 (fun z y => z + y) pc L S
  | .lsub => bin64 (fun z y => z - y) pc L S
  | .lmul => bin64 (fun z y => z * y) pc L S
  | .land => bin64 (fun z y => z &&& y) pc L S
  | .lor => bin64 (fun z y => z ||| y) pc L S
  | .lxor => bin64 (fun z y => z ^^^ y) pc L S
  | .lshl => sh64 (fun z y => z <<< (y &&& 63).toInt64) pc L S
  | .lshr => sh64 (fun z y => z >>> (y &&& 63).toInt64) pc L S
  | .lushr => sh64 (fun z y => ushL z y) pc L S
  | .ineg => un32 (fun z => .int (-z)) pc L S
  | .lneg => un64 (fun z => .long (-z)) pc L S
  | .i2l => un32 (fun z => .long z.toInt64) pc L S
  | .l2i => un64 (fun z => .int z.toInt32) pc L S
  | .i2b => un32 (fun z => .int z.toInt8.toInt32) pc L S
  | .i2c => un32 (fun z => .int z.toUInt32.toUInt16.toUInt32.toInt32) pc L S
  | .i2s => un32 (fun z => .int z.toInt16.toInt32) pc L S
  | .idiv => (match S with | .int y :: .int z :: r => some ([y ≠ 0], pc + 1, L, .int (z / y) :: r) | _ => none)
  | .irem => (match S with | .int y :: .int z :: r => some ([y ≠ 0], pc + 1, L, .int (z % y) :: r) | _ => none)
  | .ldiv => (match S with | .long y :: .long z :: r => some ([y ≠ 0], pc + 1, L, .long (z / y) :: r) | _ => none)
  | .lrem => (match S with | .long y :: .long z :: r => some ([y ≠ 0], pc + 1, L, .long (z % y) :: r) | _ => none)
  | .lcmp => (match S with | .long y :: .long z :: r => some ([], pc + 1, L, .int (cmpL z y) :: r) | _ => none)
  | .pop => (match S with | v :: r => if v.category = 1 then some ([], pc + 1, L, r) else none | _ => none)
  | .dup => (match S with | v :: r => if v.category = 1 then some ([], pc + 1, L, v :: v :: r) else none | _ => none)
  | .dup_x1 => (match S with | v :: w :: r => if v.category = 1 ∧ w.category = 1 then some ([], pc + 1, L, v :: w :: v :: r) else none | _ => none)
  | .dup2 => (match S with | v :: w :: r => if v.category = 1 ∧ w.category = 1 then some ([], pc + 1, L, v :: w :: v :: w :: r) else none | _ => none)
  | .iinc j c => (match L[j]? with | some (.val (.int z)) => (match storeLocals L j (.int (z + Int32.ofInt c)) with | some L' => some ([], pc + 3, L', S) | none => none) | _ => none)
  | .goto o => (match jump pc o with | some q => some ([], q, L, S) | none => none)
  | .ifCond cd o => (match S with | .int z :: r => br (ifCond.holds cd z = b) b pc o L r | _ => none)
  | .if_icmp cd o => (match S with | .int y :: .int z :: r => br (if_icmp.holds cd z y = b) b pc o L r | _ => none)
  | .ifnull o => (match S with | .null :: r => if b = true then br True b pc o L r else none | .ref _ :: r => if b = true then none else br True b pc o L r | _ => none)
  | .ifnonnull o => (match S with | .null :: r => if b = true then none else br True b pc o L r | .ref _ :: r => if b = true then br True b pc o L r else none | _ => none)
  | _ => none
def ilen : Instr → Nat
  | .bipush _ => 2 | .ldc _ => 2 | .iload _ => 2 | .lload _ => 2 | .aload _ => 2 | .istore _ => 2 | .lstore _ => 2 | .astore _ => 2
  | .sipush _ => 3 | .ldc2_w _ => 3 | .iinc _ _ => 3 | .goto _ => 3 | .ifCond _ _ => 3 | .if_icmp _ _ => 3 | .ifnull _ => 3 | .ifnonnull _ => 3
  | _ => 1
def runL (K : List (Nat × Value)) : List (Nat × Instr × Bool) → Nat → Array Slot → List Value → Res
  | [], pc, L, S => some ([], pc, L, S)
  | (q, i, b) :: r, pc, L, S => if q = pc then (match stp K b i pc L S with
      | none => none
      | some (ps, pc', L', S') => match runL K r pc' L' S' with
        | none => none
        | some (ps', t) => some (ps ++ ps', t)) else none
def decs (bytes : ByteArray) (B : List (Nat × Instr × Bool)) : Bool := B.all fun q => decide (decode bytes q.1 = .ok (q.2.1, ilen q.2.1))
def allP : List Prop → Prop
  | [] => True
  | p :: r => p ∧ allP r
theorem allP_append {ps qs : List Prop} (h : allP (ps ++ qs)) : allP ps ∧ allP qs := by
  induction ps with
  | nil => exact ⟨trivial, h⟩
  | cons p r ih => exact ⟨⟨h.1, (ih h.2).1⟩, (ih h.2).2⟩
def Konst (Z : State) (a0 : Array Value) (own : String) : List (Nat × Value) → Prop
  | [] => True
  | (i, v) :: r => ((∃ z, v = .int z ∧ (Jvm.Cond.constant own i z).before a0 Z = true) ∨ (∃ z, v = .long z ∧ (Jvm.Cond.constantLong own i z).before a0 Z = true)) ∧ Konst Z a0 own r
theorem look_spec {Z : State} {a0 : Array Value} {own : String} {K : List (Nat × Value)} (hK : Konst Z a0 own K) {i : Nat} {v : Value} (h : look K i = some v) : (∃ z, v = .int z ∧ (Jvm.Cond.constant own i z).before a0 Z = true) ∨ (∃ z, v = .long z ∧ (Jvm.Cond.constantLong own i z).before a0 Z = true) := by
  induction K with
  | nil => cases h
  | cons q r ih =>
    obtain ⟨j, w⟩ := q
    simp only [look] at h
    split at h
    · rename_i e; subst e; cases h; exact hK.1
    · exact ih hK.2 h
theorem constI_spec {o : Option Value} {z : Int32} (h : constI o = some z) : o = some (.int z) := by
  cases o with
  | none => cases h
  | some v => cases v <;> simp [constI] at h; rw [h]
theorem constJ_spec {o : Option Value} {z : Int64} (h : constJ o = some z) : o = some (.long z) := by
  cases o with
  | none => cases h
  | some v => cases v <;> simp [constJ] at h; rw [h]
theorem ldK_spec {ok : Value → Bool} {i q : Nat} {L : Array Slot} {S : List Value} {ps : List Prop} {pc' : Nat} {L' : Array Slot} {S' : List Value} (h : ldK ok i q L S = some (ps, pc', L', S')) : ∃ v, L[i]? = some (.val v) ∧ ok v = true ∧ pc' = q ∧ L' = L ∧ S' = v :: S := by
  unfold ldK at h
  split at h
  · split at h
    · rename_i v e1 e2; cases h; exact ⟨v, e1, e2, rfl, rfl, rfl⟩
    · cases h
  · cases h
theorem stK_spec {ok : Value → Bool} {i q : Nat} {L : Array Slot} {S : List Value} {ps : List Prop} {pc' : Nat} {L' : Array Slot} {S' : List Value} (h : stK ok i q L S = some (ps, pc', L', S')) : ∃ v, S = v :: S' ∧ ok v = true ∧ pc' = q ∧ storeLocals L i v = some L' := by
  cases S with
  | nil => cases h
  | cons v r =>
    simp only [stK] at h
    split at h
    · split at h
      · rename_i e1 _ _ e2; cases h; exact ⟨v, rfl, e1, rfl, e2⟩
      · cases h
    · cases h
theorem isI_spec {v : Value} (h : isI v = true) : ∃ z, v = .int z := by cases v <;> simp [isI] at h ⊢
theorem isJ_spec {v : Value} (h : isJ v = true) : ∃ z, v = .long z := by cases v <;> simp [isJ] at h ⊢
theorem bin32_spec {f : Int32 → Int32 → Int32} {pc : Nat} {L : Array Slot} {S : List Value} {ps : List Prop} {pc' : Nat} {L' : Array Slot} {S' : List Value} (h : bin32 f pc L S = some (ps, pc', L', S')) : ∃ z y r, S = .int y :: .int z :: r ∧ pc' = pc + 1 ∧ L' = L ∧ S' = .int (f z y) :: r := by
  unfold bin32 at h; split at h
  · cases h; exact ⟨_, _, _, rfl, rfl, rfl, rfl⟩
  · cases h
theorem bin64_spec {f : Int64 → Int64 → Int64} {pc : Nat} {L : Array Slot} {S : List Value} {ps : List Prop} {pc' : Nat} {L' : Array Slot} {S' : List Value} (h : bin64 f pc L S = some (ps, pc', L', S')) : ∃ z y r, S = .long y :: .long z :: r ∧ pc' = pc + 1 ∧ L' = L ∧ S' = .long (f z y) :: r := by
  unfold bin64 at h; split at h
  · cases h; exact ⟨_, _, _, rfl, rfl, rfl, rfl⟩
  · cases h
theorem sh64_spec {f : Int64 → Int32 → Int64} {pc : Nat} {L : Array Slot} {S : List Value} {ps : List Prop} {pc' : Nat} {L' : Array Slot} {S' : List Value} (h : sh64 f pc L S = some (ps, pc', L', S')) : ∃ z y r, S = .int y :: .long z :: r ∧ pc' = pc + 1 ∧ L' = L ∧ S' = .long (f z y) :: r := by
  unfold sh64 at h; split at h
  · cases h; exact ⟨_, _, _, rfl, rfl, rfl, rfl⟩
  · cases h
theorem un32_spec {f : Int32 → Value} {pc : Nat} {L : Array Slot} {S : List Value} {ps : List Prop} {pc' : Nat} {L' : Array Slot} {S' : List Value} (h : un32 f pc L S = some (ps, pc', L', S')) : ∃ z r, S = .int z :: r ∧ pc' = pc + 1 ∧ L' = L ∧ S' = f z :: r := by
  unfold un32 at h; split at h
  · cases h; exact ⟨_, _, rfl, rfl, rfl, rfl⟩
  · cases h
theorem un64_spec {f : Int64 → Value} {pc : Nat} {L : Array Slot} {S : List Value} {ps : List Prop} {pc' : Nat} {L' : Array Slot} {S' : List Value} (h : un64 f pc L S = some (ps, pc', L', S')) : ∃ z r, S = .long z :: r ∧ pc' = pc + 1 ∧ L' = L ∧ S' = f z :: r := by
  unfold un64 at h; split at h
  · cases h; exact ⟨_, _, rfl, rfl, rfl, rfl⟩
  · cases h
theorem jump_spec {pc q : Nat} {o : Int} (h : jump pc o = some q) : 0 ≤ (pc : Int) + o ∧ ((pc : Int) + o).toNat = q := by
  unfold jump at h; split at h
  · cases h; exact ⟨by assumption, rfl⟩
  · cases h
theorem br_spec {p : Prop} {b : Bool} {pc : Nat} {o : Int} {L : Array Slot} {S : List Value} {ps : List Prop} {pc' : Nat} {L' : Array Slot} {S' : List Value} (h : br p b pc o L S = some (ps, pc', L', S')) : ps = [p] ∧ L' = L ∧ S' = S ∧ ((b = true ∧ jump pc o = some pc') ∨ (b = false ∧ pc' = pc + 3)) := by
  unfold br at h; split at h
  · rename_i e; split at h
    · rename_i e2; cases h; exact ⟨rfl, rfl, rfl, Or.inl ⟨e, e2⟩⟩
    · cases h
  · rename_i e; cases h; exact ⟨rfl, rfl, rfl, Or.inr ⟨by simpa using e, rfl⟩⟩
section Run
variable {x : Cx} {Z : State} {own nm : String} {bytes : ByteArray} {ml : Nat} {rt : Option FieldType} {R : Room} {n0 : Nat} {Q : Post} {h : Heap} {k n : Nat} {pc pc' : Nat} {L L' : Array Slot} {S S' rest : List Value} {a0 : Array Value} {K : List (Nat × Value)} {ps : List Prop}
theorem stp_ok (ok : Ok x Z own nm bytes ml rt R) (hK : Konst Z a0 own K) {b : Bool} {i : Instr} (hd : decode bytes pc = .ok (i, ilen i)) (hs : stp K b i pc L S = some (ps, pc', L', S')) (hp : allP ps)
    {T : State} {locs : List Loc} {target : State} (X : Sd x T locs k n) (hr : Steps x.p.tables x.e x.below (T.setTop (mkF x.m pc' L' S')) target) : Steps x.p.tables x.e x.below (T.setTop (mkF x.m pc L S)) target := by
  obtain ⟨hx, hby, -, hown, -, hZ, -⟩ := ok
  have hd' := hb hby hd
  have hA : At T x.m x.c x.below := X.here
  cases i
  case iconst z => cases hs; exact XS.iconst hA hx rfl hd' hr
  case bipush z => cases hs; exact XS.bipush hA hx rfl hd' hr
  case sipush z => cases hs; exact XS.sipush hA hx rfl hd' hr
  case lconst z => cases hs; exact XS.lconst hA hx rfl hd' hr
  case aconst_null => cases hs; exact XS.aconstNull hA hx rfl hd' hr
  case ldc j =>
    simp only [stp] at hs
    split at hs
    · rename_i e
      cases hs
      rcases look_spec hK (constI_spec e) with ⟨z, e1, e2⟩ | ⟨z, e1, e2⟩
      · cases e1; exact X.ldcI hx hown (mvT hZ e2) rfl hd' hr
      · cases e1
    · cases hs
  case ldc2_w j =>
    simp only [stp] at hs
    split at hs
    · rename_i e
      cases hs
      rcases look_spec hK (constJ_spec e) with ⟨z, e1, e2⟩ | ⟨z, e1, e2⟩
      · cases e1
      · cases e1; exact X.ldc2J hx hown (mvT hZ e2) rfl hd' hr
    · cases hs
  case iload_n j => obtain ⟨v, e1, e2, rfl, rfl, rfl⟩ := ldK_spec hs; obtain ⟨z, rfl⟩ := isI_spec e2; exact XS.iloadN hA hx rfl hd' e1 hr
  case iload j => obtain ⟨v, e1, e2, rfl, rfl, rfl⟩ := ldK_spec hs; obtain ⟨z, rfl⟩ := isI_spec e2; exact XS.iload hA hx rfl hd' e1 hr
  case lload_n j => obtain ⟨v, e1, e2, rfl, rfl, rfl⟩ := ldK_spec hs; obtain ⟨z, rfl⟩ := isJ_spec e2; exact XS.lloadN hA hx rfl hd' e1 hr
  case lload j => obtain ⟨v, e1, e2, rfl, rfl, rfl⟩ := ldK_spec hs; obtain ⟨z, rfl⟩ := isJ_spec e2; exact XS.lload hA hx rfl hd' e1 hr
  case aload_n j => obtain ⟨v, e1, e2, rfl, rfl, rfl⟩ := ldK_spec hs; exact XS.aloadN hA hx rfl hd' e1 e2 hr
  case aload j => obtain ⟨v, e1, e2, rfl, rfl, rfl⟩ := ldK_spec hs; exact XS.aload hA hx rfl hd' e1 e2 hr
  case istore_n j => obtain ⟨v, rfl, e2, rfl, e3⟩ := stK_spec hs; obtain ⟨z, rfl⟩ := isI_spec e2; exact XS.istoreN hA hx rfl hd' rfl e3 hr
  case istore j => obtain ⟨v, rfl, e2, rfl, e3⟩ := stK_spec hs; obtain ⟨z, rfl⟩ := isI_spec e2; exact XS.istore hA hx rfl hd' rfl e3 hr
  case lstore_n j => obtain ⟨v, rfl, e2, rfl, e3⟩ := stK_spec hs; obtain ⟨z, rfl⟩ := isJ_spec e2; exact XS.lstoreN hA hx rfl hd' rfl e3 hr
  case lstore j => obtain ⟨v, rfl, e2, rfl, e3⟩ := stK_spec hs; obtain ⟨z, rfl⟩ := isJ_spec e2; exact XS.lstore hA hx rfl hd' rfl e3 hr
  case astore_n j => obtain ⟨v, rfl, e2, rfl, e3⟩ := stK_spec hs; exact XS.astoreN hA hx rfl hd' rfl e2 e3 hr
  case astore j => obtain ⟨v, rfl, e2, rfl, e3⟩ := stK_spec hs; exact XS.astore hA hx rfl hd' rfl e2 e3 hr
  case iadd => obtain ⟨z, y, r, rfl, rfl, rfl, rfl⟩ := bin32_spec hs; exact XS.iadd hA hx rfl hd' rfl hr
  case isub => obtain ⟨z, y, r, rfl, rfl, rfl, rfl⟩ := bin32_spec hs; exact XS.isub hA hx rfl hd' rfl hr
  case imul => obtain ⟨z, y, r, rfl, rfl, rfl, rfl⟩ := bin32_spec hs; exact XS.imul hA hx rfl hd' rfl hr
  case iand => obtain ⟨z, y, r, rfl, rfl, rfl, rfl⟩ := bin32_spec hs; exact XS.iand hA hx rfl hd' rfl hr
  case ior => obtain ⟨z, y, r, rfl, rfl, rfl, rfl⟩ := bin32_spec hs; exact XS.ior hA hx rfl hd' rfl hr
  case ixor => obtain ⟨z, y, r, rfl, rfl, rfl, rfl⟩ := bin32_spec hs; exact XS.ixor hA hx rfl hd' rfl hr
  case ishl => obtain ⟨z, y, r, rfl, rfl, rfl, rfl⟩ := bin32_spec hs; exact XS.ishl hA hx rfl hd' rfl hr
  case ishr => obtain ⟨z, y, r, rfl, rfl, rfl, rfl⟩ := bin32_spec hs; exact XS.ishr hA hx rfl hd' rfl hr
  case iushr => obtain ⟨z, y, r, rfl, rfl, rfl, rfl⟩ := bin32_spec hs; exact XS.iushr hA hx rfl hd' rfl hr
  case ladd => obtain ⟨z, y, r, rfl, rfl, rfl, rfl⟩ := bin64_spec hs; exact XS.ladd hA hx rfl hd' rfl hr
  case lsub => obtain ⟨z, y, r, rfl, rfl, rfl, rfl⟩ := bin64_spec hs; exact XS.lsub hA hx rfl hd' rfl hr
  case lmul => obtain ⟨z, y, r, rfl, rfl, rfl, rfl⟩ := bin64_spec hs; exact XS.lmul hA hx rfl hd' rfl hr
  case land => obtain ⟨z, y, r, rfl, rfl, rfl, rfl⟩ := bin64_spec hs; exact XS.land hA hx rfl hd' rfl hr
  case lor => obtain ⟨z, y, r, rfl, rfl, rfl, rfl⟩ := bin64_spec hs; exact XS.lor hA hx rfl hd' rfl hr
  case lxor => obtain ⟨z, y, r, rfl, rfl, rfl, rfl⟩ := bin64_spec hs; exact XS.lxor hA hx rfl hd' rfl hr
  case lshl => obtain ⟨z, y, r, rfl, rfl, rfl, rfl⟩ := sh64_spec hs; exact XS.lshl hA hx rfl hd' rfl hr
  case lshr => obtain ⟨z, y, r, rfl, rfl, rfl, rfl⟩ := sh64_spec hs; exact XS.lshr hA hx rfl hd' rfl hr
  case lushr => obtain ⟨z, y, r, rfl, rfl, rfl, rfl⟩ := sh64_spec hs; exact XS.lushr hA hx rfl hd' rfl hr
  case ineg => obtain ⟨z, r, rfl, rfl, rfl, rfl⟩ := un32_spec hs; exact XS.ineg hA hx rfl hd' rfl hr
  case lneg => obtain ⟨z, r, rfl, rfl, rfl, rfl⟩ := un64_spec hs; exact XS.lneg hA hx rfl hd' rfl hr
  case i2l => obtain ⟨z, r, rfl, rfl, rfl, rfl⟩ := un32_spec hs; exact XS.i2l hA hx rfl hd' rfl hr
  case l2i => obtain ⟨z, r, rfl, rfl, rfl, rfl⟩ := un64_spec hs; exact XS.l2i hA hx rfl hd' rfl hr
  case i2b => obtain ⟨z, r, rfl, rfl, rfl, rfl⟩ := un32_spec hs; exact XS.i2b hA hx rfl hd' rfl hr
  case i2c => obtain ⟨z, r, rfl, rfl, rfl, rfl⟩ := un32_spec hs; exact XS.i2c hA hx rfl hd' rfl hr
  case i2s => obtain ⟨z, r, rfl, rfl, rfl, rfl⟩ := un32_spec hs; exact XS.i2s hA hx rfl hd' rfl hr
  case idiv =>
    simp only [stp] at hs
    split at hs
    · cases hs; exact XS.idiv hA hx rfl hd' rfl hp.1 hr
    · cases hs
  case irem =>
    simp only [stp] at hs
    split at hs
    · cases hs; exact iremM X hx rfl hd' rfl hp.1 hr
    · cases hs
  case ldiv =>
    simp only [stp] at hs
    split at hs
    · cases hs; exact XS.ldiv hA hx rfl hd' rfl hp.1 hr
    · cases hs
  case lrem =>
    simp only [stp] at hs
    split at hs
    · rename_i y z r
      cases hs
      have q : z - z / y * y = z % y := lrem_mod z y
      exact XS.lrem hA hx rfl hd' rfl hp.1 (by rw [q]; exact hr)
    · cases hs
  case lcmp =>
    simp only [stp] at hs
    split at hs
    · cases hs; exact XS.lcmp hA hx rfl hd' rfl hr
    · cases hs
  case pop =>
    simp only [stp] at hs
    split at hs
    · split at hs
      · rename_i e; cases hs; exact XS.pop hA hx rfl hd' rfl e hr
      · cases hs
    · cases hs
  case dup =>
    simp only [stp] at hs
    split at hs
    · split at hs
      · rename_i e; cases hs; exact XS.dup hA hx rfl hd' rfl e hr
      · cases hs
    · cases hs
  case dup_x1 =>
    simp only [stp] at hs
    split at hs
    · split at hs
      · rename_i e; cases hs; exact XS.dupX1 hA hx rfl hd' rfl e.1 e.2 hr
      · cases hs
    · cases hs
  case dup2 =>
    simp only [stp] at hs
    split at hs
    · split at hs
      · rename_i e; cases hs; exact XT.dup2 hA hx rfl hd' rfl e.1 e.2 hr
      · cases hs
    · cases hs
  case iinc j c =>
    simp only [stp] at hs
    split at hs
    · rename_i e1
      split at hs
      · rename_i e2; cases hs; exact XS.iinc hA hx rfl hd' e1 e2 hr
      · cases hs
    · cases hs
  case goto o =>
    simp only [stp] at hs
    split at hs
    · rename_i e; cases hs; obtain ⟨e1, e2⟩ := jump_spec e; exact XS.goto hA hx rfl rfl hd' e1 e2 hr
    · cases hs
  case ifCond cd o =>
    simp only [stp] at hs
    split at hs
    · obtain ⟨rfl, rfl, rfl, ⟨rfl, e⟩ | ⟨rfl, rfl⟩⟩ := br_spec hs
      · obtain ⟨e1, e2⟩ := jump_spec e; exact XS.ifYes hA hx rfl rfl hd' rfl hp.1 e1 e2 hr
      · exact XS.ifNo hA hx rfl hd' rfl hp.1 hr
    · cases hs
  case if_icmp cd o =>
    simp only [stp] at hs
    split at hs
    · obtain ⟨rfl, rfl, rfl, ⟨rfl, e⟩ | ⟨rfl, rfl⟩⟩ := br_spec hs
      · obtain ⟨e1, e2⟩ := jump_spec e; exact XS.icmpYes hA hx rfl rfl hd' rfl hp.1 e1 e2 hr
      · exact XS.icmpNo hA hx rfl hd' rfl hp.1 hr
    · cases hs
  case ifnull o =>
    simp only [stp] at hs
    split at hs
    · split at hs
      · rename_i e0; subst e0
        obtain ⟨rfl, rfl, rfl, ⟨-, e⟩ | ⟨e, -⟩⟩ := br_spec hs
        · obtain ⟨e1, e2⟩ := jump_spec e; exact XS.ifnullYes hA hx rfl rfl hd' rfl e1 e2 hr
        · cases e
      · cases hs
    · split at hs
      · cases hs
      · rename_i e0
        obtain ⟨rfl, rfl, rfl, ⟨e, -⟩ | ⟨-, rfl⟩⟩ := br_spec hs
        · exact absurd e e0
        · exact XS.ifnullNo hA hx rfl hd' rfl hr
    · cases hs
  case ifnonnull o =>
    simp only [stp] at hs
    split at hs
    · split at hs
      · cases hs
      · rename_i e0
        obtain ⟨rfl, rfl, rfl, ⟨e, -⟩ | ⟨-, rfl⟩⟩ := br_spec hs
        · exact absurd e e0
        · exact XS.ifnonnullNo hA hx rfl hd' rfl hr
    · split at hs
      · rename_i e0; subst e0
        obtain ⟨rfl, rfl, rfl, ⟨-, e⟩ | ⟨e, -⟩⟩ := br_spec hs
        · obtain ⟨e1, e2⟩ := jump_spec e; exact XS.ifnonnullYes hA hx rfl rfl hd' rfl e1 e2 hr
        · cases e
      · cases hs
    · cases hs
  all_goals cases hs
theorem run_ok (ok : Ok x Z own nm bytes ml rt R) (hK : Konst Z a0 own K) : ∀ (B : List (Nat × Instr × Bool)) {pc : Nat} {L : Array Slot} {S : List Value} {ps : List Prop} {pc' : Nat} {L' : Array Slot} {S' : List Value}, decs bytes B = true → runL K B pc L S = some (ps, pc', L', S') → allP ps →
    ∀ {T : State} {locs : List Loc} {target : State}, Sd x T locs k n → Steps x.p.tables x.e x.below (T.setTop (mkF x.m pc' L' S')) target → Steps x.p.tables x.e x.below (T.setTop (mkF x.m pc L S)) target
  | [], pc, L, S, ps, pc', L', S', _, hr, _, T, locs, target, X, st => by cases hr; exact st
  | (q, i, b) :: r, pc, L, S, ps, pc', L', S', hd, hr, hp, T, locs, target, X, st => by
    simp only [decs, List.all_cons, Bool.and_eq_true, decide_eq_true_eq] at hd
    simp only [runL] at hr
    split at hr
    · rename_i e; subst e
      split at hr
      · cases hr
      · rename_i ps1 pc1 L1 S1 e1
        split at hr
        · cases hr
        · rename_i ps2 t e2
          cases hr
          obtain ⟨p1, p2⟩ := allP_append hp
          exact stp_ok ok hK hd.1 e1 p1 X (run_ok ok hK r hd.2 e2 p2 X st)
    · cases hr
theorem wp_run (ok : Ok x Z own nm bytes ml rt R) (hK : Konst Z a0 own K) {B : List (Nat × Instr × Bool)} (hd : decs bytes B = true) (hr : runL K B pc L S = some (ps, pc', L', S')) (hp : allP ps) (w : WP x n0 Q h k n pc' L' S') : WP x n0 Q h k n pc L S :=
  wp_steps (fun T locs target X _ st => run_ok ok hK B hd hr hp X st) w
end Run
end Jvm.OwnW
namespace Jvm.Pilot.@@N@@
open Jvm Jvm.ClassFile Sem Op Lib Jvm.Free Jvm.Stand Jvm.LawKit Jvm.RoadKit Bundle Jvm.OwnW Jvm.Free.XT Jvm.Pilot.@@N@@.Jvm.D
def k_ini : List (Nat × Value) := []
def Q_ini (Z : State) (a : Addr) (ti : Int64) (tk : Int64) (fl : Int32) (t0 : Int64) (k0 : Int64) (c0 : Int32) (r0 : Int32) (h0 : Heap) : Post := fun v h => v = none ∧ Keep h0 h [a] ∧ Fld Z h a "com/example/exclude/exclude/lock/Hold" "threadId" "J" (.long ti) ∧ Fld Z h a "com/example/exclude/exclude/lock/Hold" "lease" "Lcom/example/exclude/exclude/lease/Lease;" (.null) ∧ Fld Z h a "com/example/exclude/exclude/lock/Hold" "fencingToken" "J" (.long tk) ∧ Fld Z h a "com/example/exclude/exclude/lock/Hold" "count" "I" (.int (1 : Int32)) ∧ Fld Z h a "com/example/exclude/exclude/lock/Hold" "renewedFrom" "I" (.int (if fl = (0 : Int32) then (0 : Int32) else (1 : Int32)))
theorem own_ini_1 (ti : Int64) (tk : Int64) (fl : Int32) (t0 : Int64) (k0 : Int64) (c0 : Int32) (r0 : Int32) (s36_0 : Int32) (h_s36_0 : s36_0 = (if fl = (0 : Int32) then (0 : Int32) else (1 : Int32))) : s36_0 = (if fl = (0 : Int32) then (0 : Int32) else (1 : Int32)) := by
  simp [*]
theorem pn_ini : plainFor (⟨"com/example/exclude/exclude/lock/Hold", "<init>", "(JLcom/example/exclude/exclude/lease/Lease;JZ)V"⟩ : MethodName) = true := by first | (refine plainFor_of_name ?_; simp [plainName, overriddenIn]; done) | decide +kernel
set_option maxRecDepth 65536 in
set_option maxHeartbeats 40000000 in
theorem c_ini (l : Launch) (Z : State) (a0 : Array Value) (hw : ∀ d ∈ tables_1, d.before a0 Z = true) (a : Addr) (ti : Int64) (tk : Int64) (fl : Int32) (t0 : Int64) (k0 : Int64) (c0 : Int32) (r0 : Int32) (h0 : Heap) (n0 : Nat) (Z0 : n0 ≤ h0.size) (E_a : Exa Z h0 a "com/example/exclude/exclude/lock/Hold") (F_a_threadId : Fld Z h0 a "com/example/exclude/exclude/lock/Hold" "threadId" "J" (.long t0)) (F_a_lease : Fld Z h0 a "com/example/exclude/exclude/lock/Hold" "lease" "Lcom/example/exclude/exclude/lease/Lease;" (.null)) (F_a_fencingToken : Fld Z h0 a "com/example/exclude/exclude/lock/Hold" "fencingToken" "J" (.long k0)) (F_a_count : Fld Z h0 a "com/example/exclude/exclude/lock/Hold" "count" "I" (.int c0)) (F_a_renewedFrom : Fld Z h0 a "com/example/exclude/exclude/lock/Hold" "renewedFrom" "I" (.int r0)) (g_a : n0 ≤ a) :
    Con l Z (⟨"com/example/exclude/exclude/lock/Hold", "<init>", "(JLcom/example/exclude/exclude/lease/Lease;JZ)V"⟩ : MethodName) prog_3_method_1_code 7 (none : Option FieldType) ({ frames := 1, cells := 0, slots := 0, locals := 12 } : Room) #[(.ref a), .long ti, .null, .long tk, .int fl] h0 n0 (Q_ini Z a ti tk fl t0 k0 c0 r0 h0) [] := by
  refine con_of_wp pn_ini (L0 := #[.val ((.ref a)), .val (.long ti), .second, .val (.null), .val (.long tk), .second, .val (.int fl)]) (fun m => by first | (simp [entryFrame, mkF, argsToLocals, Value.category]; done) | rfl) (fun X hl ok => ?_)
  subst hl
  have hK : Konst Z a0 "com/example/exclude/exclude/lock/Hold" k_ini := trivial
  have K0 : Keep h0 h0 [a] := Keep.refl _ _
  refine wp_run ok hK (B := [(0, .aload_n 0, false)]) (by decide +kernel) (pc' := 1) (L' := #[.val ((.ref a)), .val (.long ti), .second, .val (.null), .val (.long tk), .second, .val (.int fl)]) (S' := [(.ref a)]) rfl trivial ?_
  refine wp_initO ok (wd hw 6 rfl) (wd hw 7 rfl) (wd hw 8 rfl) (by rfl) (by decide +kernel) (by decide) (Nat.le_of_ble_eq_true rfl) ?_
  refine wp_run ok hK (B := [(4, .aload_n 0, false), (5, .lload_n 1, false)]) (by decide +kernel) (pc' := 6) (L' := #[.val ((.ref a)), .val (.long ti), .second, .val (.null), .val (.long tk), .second, .val (.int fl)]) (S' := [.long ti, (.ref a)]) rfl trivial ?_
  refine wp_putF ok (wd hw 9 rfl) F_a_threadId E_a (Or.inr ⟨(wd hw 10 rfl), rfl, rfl⟩) (wd hw 1 rfl) (ty := .long) (by decide) rfl rfl (by decide +kernel) g_a ?_
  intro h1 W2
  have F3 := F_a_threadId.same W2
  have F4 := F_a_lease.other W2 (Or.inr (slot_ne (C := "com/example/exclude/exclude/lock/Hold") (a0 := a0) (Or.inr (wd hw 12 rfl)) (Or.inr (wd hw 10 rfl)) (by decide +kernel) (t := (.object "com/example/exclude/exclude/lease/Lease")) (t' := .long) (by decide +kernel) (by decide +kernel)))
  have F5 := F_a_fencingToken.other W2 (Or.inr (slot_ne (C := "com/example/exclude/exclude/lock/Hold") (a0 := a0) (Or.inr (wd hw 14 rfl)) (Or.inr (wd hw 10 rfl)) (by decide +kernel) (t := .long) (t' := .long) (by decide +kernel) (by decide +kernel)))
  have F6 := F_a_count.other W2 (Or.inr (slot_ne (C := "com/example/exclude/exclude/lock/Hold") (a0 := a0) (Or.inl (wd hw 16 rfl)) (Or.inr (wd hw 10 rfl)) (by decide +kernel) (t := .int) (t' := .long) (by decide +kernel) (by decide +kernel)))
  have F7 := F_a_renewedFrom.other W2 (Or.inr (slot_ne (C := "com/example/exclude/exclude/lock/Hold") (a0 := a0) (Or.inl (wd hw 18 rfl)) (Or.inr (wd hw 10 rfl)) (by decide +kernel) (t := .int) (t' := .long) (by decide +kernel) (by decide +kernel)))
  have E8 := E_a.wr W2
  have Z9 : n0 ≤ h1.size := by rw [W2.size]; exact Z0
  have K10 := K0.wr W2 (Or.inl (by simp))
  refine wp_run ok hK (B := [(9, .aload_n 0, false), (10, .aload_n 3, false)]) (by decide +kernel) (pc' := 11) (L' := #[.val ((.ref a)), .val (.long ti), .second, .val (.null), .val (.long tk), .second, .val (.int fl)]) (S' := [.null, (.ref a)]) rfl trivial ?_
  refine wp_putF ok (wd hw 11 rfl) F4 E8 (Or.inr ⟨(wd hw 12 rfl), rfl, rfl⟩) (wd hw 1 rfl) (ty := (.object "com/example/exclude/exclude/lease/Lease")) (by decide) rfl rfl (by decide +kernel) g_a ?_
  intro h11 W12
  have F13 := F3.other W12 (Or.inr (slot_ne (C := "com/example/exclude/exclude/lock/Hold") (a0 := a0) (Or.inr (wd hw 10 rfl)) (Or.inr (wd hw 12 rfl)) (by decide +kernel) (t := .long) (t' := (.object "com/example/exclude/exclude/lease/Lease")) (by decide +kernel) (by decide +kernel)))
  have F14 := F4.same W12
  have F15 := F5.other W12 (Or.inr (slot_ne (C := "com/example/exclude/exclude/lock/Hold") (a0 := a0) (Or.inr (wd hw 14 rfl)) (Or.inr (wd hw 12 rfl)) (by decide +kernel) (t := .long) (t' := (.object "com/example/exclude/exclude/lease/Lease")) (by decide +kernel) (by decide +kernel)))
  have F16 := F6.other W12 (Or.inr (slot_ne (C := "com/example/exclude/exclude/lock/Hold") (a0 := a0) (Or.inl (wd hw 16 rfl)) (Or.inr (wd hw 12 rfl)) (by decide +kernel) (t := .int) (t' := (.object "com/example/exclude/exclude/lease/Lease")) (by decide +kernel) (by decide +kernel)))
  have F17 := F7.other W12 (Or.inr (slot_ne (C := "com/example/exclude/exclude/lock/Hold") (a0 := a0) (Or.inl (wd hw 18 rfl)) (Or.inr (wd hw 12 rfl)) (by decide +kernel) (t := .int) (t' := (.object "com/example/exclude/exclude/lease/Lease")) (by decide +kernel) (by decide +kernel)))
  have E18 := E8.wr W12
  have Z19 : n0 ≤ h11.size := by rw [W12.size]; exact Z9
  have K20 := K10.wr W12 (Or.inl (by simp))
  refine wp_run ok hK (B := [(14, .aload_n 0, false), (15, .lload 4, false)]) (by decide +kernel) (pc' := 17) (L' := #[.val ((.ref a)), .val (.long ti), .second, .val (.null), .val (.long tk), .second, .val (.int fl)]) (S' := [.long tk, (.ref a)]) rfl trivial ?_
  refine wp_putF ok (wd hw 13 rfl) F15 E18 (Or.inr ⟨(wd hw 14 rfl), rfl, rfl⟩) (wd hw 1 rfl) (ty := .long) (by decide) rfl rfl (by decide +kernel) g_a ?_
  intro h21 W22
  have F23 := F13.other W22 (Or.inr (slot_ne (C := "com/example/exclude/exclude/lock/Hold") (a0 := a0) (Or.inr (wd hw 10 rfl)) (Or.inr (wd hw 14 rfl)) (by decide +kernel) (t := .long) (t' := .long) (by decide +kernel) (by decide +kernel)))
  have F24 := F14.other W22 (Or.inr (slot_ne (C := "com/example/exclude/exclude/lock/Hold") (a0 := a0) (Or.inr (wd hw 12 rfl)) (Or.inr (wd hw 14 rfl)) (by decide +kernel) (t := (.object "com/example/exclude/exclude/lease/Lease")) (t' := .long) (by decide +kernel) (by decide +kernel)))
  have F25 := F15.same W22
  have F26 := F16.other W22 (Or.inr (slot_ne (C := "com/example/exclude/exclude/lock/Hold") (a0 := a0) (Or.inl (wd hw 16 rfl)) (Or.inr (wd hw 14 rfl)) (by decide +kernel) (t := .int) (t' := .long) (by decide +kernel) (by decide +kernel)))
  have F27 := F17.other W22 (Or.inr (slot_ne (C := "com/example/exclude/exclude/lock/Hold") (a0 := a0) (Or.inl (wd hw 18 rfl)) (Or.inr (wd hw 14 rfl)) (by decide +kernel) (t := .int) (t' := .long) (by decide +kernel) (by decide +kernel)))
  have E28 := E18.wr W22
  have Z29 : n0 ≤ h21.size := by rw [W22.size]; exact Z19
  have K30 := K20.wr W22 (Or.inl (by simp))
  refine wp_run ok hK (B := [(20, .aload_n 0, false), (21, .iconst 1, false)]) (by decide +kernel) (pc' := 22) (L' := #[.val ((.ref a)), .val (.long ti), .second, .val (.null), .val (.long tk), .second, .val (.int fl)]) (S' := [.int (1 : Int32), (.ref a)]) rfl trivial ?_
  refine wp_putF ok (wd hw 15 rfl) F26 E28 (Or.inl (wd hw 16 rfl)) (wd hw 1 rfl) (ty := .int) (by decide) rfl rfl (by decide +kernel) g_a ?_
  intro h31 W32
  have F33 := F23.other W32 (Or.inr (slot_ne (C := "com/example/exclude/exclude/lock/Hold") (a0 := a0) (Or.inr (wd hw 10 rfl)) (Or.inl (wd hw 16 rfl)) (by decide +kernel) (t := .long) (t' := .int) (by decide +kernel) (by decide +kernel)))
  have F34 := F24.other W32 (Or.inr (slot_ne (C := "com/example/exclude/exclude/lock/Hold") (a0 := a0) (Or.inr (wd hw 12 rfl)) (Or.inl (wd hw 16 rfl)) (by decide +kernel) (t := (.object "com/example/exclude/exclude/lease/Lease")) (t' := .int) (by decide +kernel) (by decide +kernel)))
  have F35 := F25.other W32 (Or.inr (slot_ne (C := "com/example/exclude/exclude/lock/Hold") (a0 := a0) (Or.inr (wd hw 14 rfl)) (Or.inl (wd hw 16 rfl)) (by decide +kernel) (t := .long) (t' := .int) (by decide +kernel) (by decide +kernel)))
  have F36 := F26.same W32
  have F37 := F27.other W32 (Or.inr (slot_ne (C := "com/example/exclude/exclude/lock/Hold") (a0 := a0) (Or.inl (wd hw 18 rfl)) (Or.inl (wd hw 16 rfl)) (by decide +kernel) (t := .int) (t' := .int) (by decide +kernel) (by decide +kernel)))
  have E38 := E28.wr W32
  have Z39 : n0 ≤ h31.size := by rw [W32.size]; exact Z29
  have K40 := K30.wr W32 (Or.inl (by simp))
  refine wp_run ok hK (B := [(25, .aload_n 0, false), (26, .iload 6, false)]) (by decide +kernel) (pc' := 28) (L' := #[.val ((.ref a)), .val (.long ti), .second, .val (.null), .val (.long tk), .second, .val (.int fl)]) (S' := [.int fl, (.ref a)]) rfl trivial ?_
  have J36_42 : ∀ (s36_0 : Int32) (h_s36_0 : s36_0 = (if fl = (0 : Int32) then (0 : Int32) else (1 : Int32))), WP X n0 (Q_ini Z a ti tk fl t0 k0 c0 r0 h0) h31 0 0 36 #[.val ((.ref a)), .val (.long ti), .second, .val (.null), .val (.long tk), .second, .val (.int fl)] [.int s36_0, (.ref a)] := by
    intro s36_0 h_s36_0
    refine wp_putF ok (wd hw 17 rfl) F37 E38 (Or.inl (wd hw 18 rfl)) (wd hw 1 rfl) (ty := .int) (by decide) rfl rfl (by decide +kernel) g_a ?_
    intro h43 W44
    have F45 := F33.other W44 (Or.inr (slot_ne (C := "com/example/exclude/exclude/lock/Hold") (a0 := a0) (Or.inr (wd hw 10 rfl)) (Or.inl (wd hw 18 rfl)) (by decide +kernel) (t := .long) (t' := .int) (by decide +kernel) (by decide +kernel)))
    have F46 := F34.other W44 (Or.inr (slot_ne (C := "com/example/exclude/exclude/lock/Hold") (a0 := a0) (Or.inr (wd hw 12 rfl)) (Or.inl (wd hw 18 rfl)) (by decide +kernel) (t := (.object "com/example/exclude/exclude/lease/Lease")) (t' := .int) (by decide +kernel) (by decide +kernel)))
    have F47 := F35.other W44 (Or.inr (slot_ne (C := "com/example/exclude/exclude/lock/Hold") (a0 := a0) (Or.inr (wd hw 14 rfl)) (Or.inl (wd hw 18 rfl)) (by decide +kernel) (t := .long) (t' := .int) (by decide +kernel) (by decide +kernel)))
    have F48 := F36.other W44 (Or.inr (slot_ne (C := "com/example/exclude/exclude/lock/Hold") (a0 := a0) (Or.inl (wd hw 16 rfl)) (Or.inl (wd hw 18 rfl)) (by decide +kernel) (t := .int) (t' := .int) (by decide +kernel) (by decide +kernel)))
    have F49 := F37.same W44
    have E50 := E38.wr W44
    have Z51 : n0 ≤ h43.size := by rw [W44.size]; exact Z39
    have K52 := K40.wr W44 (Or.inl (by simp))
    refine wp_retV ok (by decide +kernel) (by decide) (by decide) ?_
    exact ⟨rfl, K52, F45, F46, F47, F48, (Fld_c F49 (congrArg Value.int (own_ini_1 ti tk fl t0 k0 c0 r0 s36_0 h_s36_0)))⟩
  by_cases c41 : fl = (0 : Int32)
  · refine wp_run ok hK (B := [(28, .ifCond .eq 7, true), (35, .iconst 0, false)]) (by decide +kernel) (pc' := 36) (L' := #[.val ((.ref a)), .val (.long ti), .second, .val (.null), .val (.long tk), .second, .val (.int fl)]) (S' := [.int (0 : Int32), (.ref a)]) rfl ⟨(XT.i0_eq_t c41), trivial⟩ ?_
    exact J36_42 _ (by rw [if_pos c41])
  · refine wp_run ok hK (B := [(28, .ifCond .eq 7, false), (31, .iconst 1, false), (32, .goto 4, false)]) (by decide +kernel) (pc' := 36) (L' := #[.val ((.ref a)), .val (.long ti), .second, .val (.null), .val (.long tk), .second, .val (.int fl)]) (S' := [.int (1 : Int32), (.ref a)]) rfl ⟨(XT.i0_eq_f c41), trivial⟩ ?_
    exact J36_42 _ (by rw [if_neg c41])
def k_ent : List (Nat × Value) := []
def Q_ent (Z : State) (a : Addr) (z : Int32) (c : Int32) (r : Int32) (h0 : Heap) : Post := fun v h => v = none ∧ Keep h0 h [a] ∧ Fld Z h a "com/example/exclude/exclude/lock/Hold" "count" "I" (.int (c + (1 : Int32))) ∧ Fld Z h a "com/example/exclude/exclude/lock/Hold" "renewedFrom" "I" (.int (if z = (0 : Int32) then r else (if r = (0 : Int32) then (c + (1 : Int32)) else r)))
theorem own_ent_1 (z : Int32) (c : Int32) (r : Int32) (hc11 : z = (0 : Int32)) : r = (if z = (0 : Int32) then r else (if r = (0 : Int32) then (c + (1 : Int32)) else r)) := by
  simp [*]
theorem own_ent_2 (z : Int32) (c : Int32) (r : Int32) (hc11 : ¬ (z = (0 : Int32))) (hc18 : r = (0 : Int32)) : (c + (1 : Int32)) = (if z = (0 : Int32) then r else (if r = (0 : Int32) then (c + (1 : Int32)) else r)) := by
  simp [*]
theorem own_ent_3 (z : Int32) (c : Int32) (r : Int32) (hc11 : ¬ (z = (0 : Int32))) (hc18 : ¬ (r = (0 : Int32))) : r = (if z = (0 : Int32) then r else (if r = (0 : Int32) then (c + (1 : Int32)) else r)) := by
  simp [*]
theorem pn_ent : plainFor (⟨"com/example/exclude/exclude/lock/Hold", "enterAgain", "(Z)V"⟩ : MethodName) = true := by first | (refine plainFor_of_name ?_; simp [plainName, overriddenIn]; done) | decide +kernel
set_option maxRecDepth 65536 in
set_option maxHeartbeats 40000000 in
theorem c_ent (l : Launch) (Z : State) (a0 : Array Value) (hw : ∀ d ∈ tables_1, d.before a0 Z = true) (a : Addr) (z : Int32) (c : Int32) (r : Int32) (h0 : Heap) (n0 : Nat) (Z0 : n0 ≤ h0.size) (E_a : Exa Z h0 a "com/example/exclude/exclude/lock/Hold") (F_a_count : Fld Z h0 a "com/example/exclude/exclude/lock/Hold" "count" "I" (.int c)) (F_a_renewedFrom : Fld Z h0 a "com/example/exclude/exclude/lock/Hold" "renewedFrom" "I" (.int r)) (g_a : n0 ≤ a) :
    Con l Z (⟨"com/example/exclude/exclude/lock/Hold", "enterAgain", "(Z)V"⟩ : MethodName) prog_3_method_8_code 2 (none : Option FieldType) ({ frames := 0, cells := 0, slots := 0, locals := 0 } : Room) #[(.ref a), .int z] h0 n0 (Q_ent Z a z c r h0) [] := by
  refine con_of_wp pn_ent (L0 := #[.val ((.ref a)), .val (.int z)]) (fun m => by first | (simp [entryFrame, mkF, argsToLocals, Value.category]; done) | rfl) (fun X hl ok => ?_)
  subst hl
  have hK : Konst Z a0 "com/example/exclude/exclude/lock/Hold" k_ent := trivial
  have K0 : Keep h0 h0 [a] := Keep.refl _ _
  refine wp_run ok hK (B := [(0, .aload_n 0, false), (1, .dup, false)]) (by decide +kernel) (pc' := 2) (L' := #[.val ((.ref a)), .val (.int z)]) (S' := [(.ref a), (.ref a)]) rfl trivial ?_
  refine wp_getF ok (wd hw 15 rfl) F_a_count (by decide +kernel) ?_
  refine wp_run ok hK (B := [(5, .iconst 1, false), (6, .iadd, false)]) (by decide +kernel) (pc' := 7) (L' := #[.val ((.ref a)), .val (.int z)]) (S' := [.int (c + (1 : Int32)), (.ref a)]) rfl trivial ?_
  refine wp_putF ok (wd hw 15 rfl) F_a_count E_a (Or.inl (wd hw 16 rfl)) (wd hw 1 rfl) (ty := .int) (by decide) rfl rfl (by decide +kernel) g_a ?_
  intro h1 W2
  have F3 := F_a_count.same W2
  have F4 := F_a_renewedFrom.other W2 (Or.inr (slot_ne (C := "com/example/exclude/exclude/lock/Hold") (a0 := a0) (Or.inl (wd hw 18 rfl)) (Or.inl (wd hw 16 rfl)) (by decide +kernel) (t := .int) (t' := .int) (by decide +kernel) (by decide +kernel)))
  have E5 := E_a.wr W2
  have Z6 : n0 ≤ h1.size := by rw [W2.size]; exact Z0
  have K7 := K0.wr W2 (Or.inl (by simp))
  refine wp_run ok hK (B := [(10, .iload_n 1, false)]) (by decide +kernel) (pc' := 11) (L' := #[.val ((.ref a)), .val (.int z)]) (S' := [.int z]) rfl trivial ?_
  by_cases hc11 : z = (0 : Int32)
  · refine wp_run ok hK (B := [(11, .ifCond .eq 18, true)]) (by decide +kernel) (pc' := 29) (L' := #[.val ((.ref a)), .val (.int z)]) (S' := []) rfl ⟨(XT.i0_eq_t hc11), trivial⟩ ?_
    refine wp_retV ok (by decide +kernel) (by decide) (by decide) ?_
    exact ⟨rfl, K7, F3, (Fld_c F4 (congrArg Value.int (own_ent_1 z c r hc11)))⟩
  · refine wp_run ok hK (B := [(11, .ifCond .eq 18, false)]) (by decide +kernel) (pc' := 14) (L' := #[.val ((.ref a)), .val (.int z)]) (S' := []) rfl ⟨(XT.i0_eq_f hc11), trivial⟩ ?_
    refine wp_run ok hK (B := [(14, .aload_n 0, false)]) (by decide +kernel) (pc' := 15) (L' := #[.val ((.ref a)), .val (.int z)]) (S' := [(.ref a)]) rfl trivial ?_
    refine wp_getF ok (wd hw 17 rfl) F4 (by decide +kernel) ?_
    by_cases hc18 : r = (0 : Int32)
    · refine wp_run ok hK (B := [(18, .ifCond .ne 11, false)]) (by decide +kernel) (pc' := 21) (L' := #[.val ((.ref a)), .val (.int z)]) (S' := []) rfl ⟨(XT.i0_ne_f hc18), trivial⟩ ?_
      refine wp_run ok hK (B := [(21, .aload_n 0, false), (22, .aload_n 0, false)]) (by decide +kernel) (pc' := 23) (L' := #[.val ((.ref a)), .val (.int z)]) (S' := [(.ref a), (.ref a)]) rfl trivial ?_
      refine wp_getF ok (wd hw 15 rfl) F3 (by decide +kernel) ?_
      refine wp_putF ok (wd hw 17 rfl) F4 E5 (Or.inl (wd hw 18 rfl)) (wd hw 1 rfl) (ty := .int) (by decide) rfl rfl (by decide +kernel) g_a ?_
      intro h8 W9
      have F10 := F3.other W9 (Or.inr (slot_ne (C := "com/example/exclude/exclude/lock/Hold") (a0 := a0) (Or.inl (wd hw 16 rfl)) (Or.inl (wd hw 18 rfl)) (by decide +kernel) (t := .int) (t' := .int) (by decide +kernel) (by decide +kernel)))
      have F11 := F4.same W9
      have E12 := E5.wr W9
      have Z13 : n0 ≤ h8.size := by rw [W9.size]; exact Z6
      have K14 := K7.wr W9 (Or.inl (by simp))
      refine wp_retV ok (by decide +kernel) (by decide) (by decide) ?_
      exact ⟨rfl, K14, F10, (Fld_c F11 (congrArg Value.int (own_ent_2 z c r hc11 hc18)))⟩
    · refine wp_run ok hK (B := [(18, .ifCond .ne 11, true)]) (by decide +kernel) (pc' := 29) (L' := #[.val ((.ref a)), .val (.int z)]) (S' := []) rfl ⟨(XT.i0_ne_t hc18), trivial⟩ ?_
      refine wp_retV ok (by decide +kernel) (by decide) (by decide) ?_
      exact ⟨rfl, K7, F3, (Fld_c F4 (congrArg Value.int (own_ent_3 z c r hc11 hc18)))⟩
def k_cnt : List (Nat × Value) := []
def Q_cnt (Z : State) (a : Addr) (c : Int32) (h0 : Heap) : Post := fun v h => v = some (.int c) ∧ h0 = h
theorem pn_cnt : plainFor (⟨"com/example/exclude/exclude/lock/Hold", "count", "()I"⟩ : MethodName) = true := by first | (refine plainFor_of_name ?_; simp [plainName, overriddenIn]; done) | decide +kernel
set_option maxRecDepth 65536 in
set_option maxHeartbeats 40000000 in
theorem c_cnt (l : Launch) (Z : State) (a0 : Array Value) (hw : ∀ d ∈ tables_1, d.before a0 Z = true) (a : Addr) (c : Int32) (h0 : Heap) (n0 : Nat) (Z0 : n0 ≤ h0.size) (E_a : Exa Z h0 a "com/example/exclude/exclude/lock/Hold") (F_a_count : Fld Z h0 a "com/example/exclude/exclude/lock/Hold" "count" "I" (.int c)) (g_a : n0 ≤ a) :
    Con l Z (⟨"com/example/exclude/exclude/lock/Hold", "count", "()I"⟩ : MethodName) prog_3_method_7_code 1 (some .int) ({ frames := 0, cells := 0, slots := 0, locals := 0 } : Room) #[(.ref a)] h0 n0 (Q_cnt Z a c h0) [] := by
  refine con_of_wp pn_cnt (L0 := #[.val ((.ref a))]) (fun m => by first | (simp [entryFrame, mkF, argsToLocals, Value.category]; done) | rfl) (fun X hl ok => ?_)
  subst hl
  have hK : Konst Z a0 "com/example/exclude/exclude/lock/Hold" k_cnt := trivial
  refine wp_run ok hK (B := [(0, .aload_n 0, false)]) (by decide +kernel) (pc' := 1) (L' := #[.val ((.ref a))]) (S' := [(.ref a)]) rfl trivial ?_
  refine wp_getF ok (wd hw 15 rfl) F_a_count (by decide +kernel) ?_
  refine wp_retI ok (by decide +kernel) (by decide) (by decide) ?_
  exact ⟨rfl, rfl⟩
def k_ren : List (Nat × Value) := []
def Q_ren (Z : State) (a : Addr) (r : Int32) (h0 : Heap) : Post := fun v h => v = some (.int (if (0 : Int32) < r then (1 : Int32) else (0 : Int32))) ∧ h0 = h
theorem own_ren_1 (r : Int32) (s12_0 : Int32) (h_s12_0 : s12_0 = (if (0 : Int32) < r then (1 : Int32) else (0 : Int32))) : nar .boolean s12_0 = (if (0 : Int32) < r then (1 : Int32) else (0 : Int32)) := by
  subst h_s12_0; split <;> rfl
theorem pn_ren : plainFor (⟨"com/example/exclude/exclude/lock/Hold", "isRenewed", "()Z"⟩ : MethodName) = true := by first | (refine plainFor_of_name ?_; simp [plainName, overriddenIn]; done) | decide +kernel
set_option maxRecDepth 65536 in
set_option maxHeartbeats 40000000 in
theorem c_ren (l : Launch) (Z : State) (a0 : Array Value) (hw : ∀ d ∈ tables_1, d.before a0 Z = true) (a : Addr) (r : Int32) (h0 : Heap) (n0 : Nat) (Z0 : n0 ≤ h0.size) (E_a : Exa Z h0 a "com/example/exclude/exclude/lock/Hold") (F_a_renewedFrom : Fld Z h0 a "com/example/exclude/exclude/lock/Hold" "renewedFrom" "I" (.int r)) (g_a : n0 ≤ a) :
    Con l Z (⟨"com/example/exclude/exclude/lock/Hold", "isRenewed", "()Z"⟩ : MethodName) prog_3_method_6_code 1 (some .boolean) ({ frames := 0, cells := 0, slots := 0, locals := 0 } : Room) #[(.ref a)] h0 n0 (Q_ren Z a r h0) [] := by
  refine con_of_wp pn_ren (L0 := #[.val ((.ref a))]) (fun m => by first | (simp [entryFrame, mkF, argsToLocals, Value.category]; done) | rfl) (fun X hl ok => ?_)
  subst hl
  have hK : Konst Z a0 "com/example/exclude/exclude/lock/Hold" k_ren := trivial
  refine wp_run ok hK (B := [(0, .aload_n 0, false)]) (by decide +kernel) (pc' := 1) (L' := #[.val ((.ref a))]) (S' := [(.ref a)]) rfl trivial ?_
  refine wp_getF ok (wd hw 17 rfl) F_a_renewedFrom (by decide +kernel) ?_
  have J12_2 : ∀ (s12_0 : Int32) (h_s12_0 : s12_0 = (if (0 : Int32) < r then (1 : Int32) else (0 : Int32))), WP X n0 (Q_ren Z a r h0) h0 0 0 12 #[.val ((.ref a))] [.int s12_0] := by
    intro s12_0 h_s12_0
    refine wp_retZ ok (t := .boolean) (by simp) (by decide +kernel) (by decide) (by decide) ?_
    exact ⟨congrArg (fun z => some (Value.int z)) (own_ren_1 r s12_0 h_s12_0), rfl⟩
  by_cases c1 : (0 : Int32) < r
  · refine wp_run ok hK (B := [(4, .ifCond .le 7, false), (7, .iconst 1, false), (8, .goto 4, false)]) (by decide +kernel) (pc' := 12) (L' := #[.val ((.ref a))]) (S' := [.int (1 : Int32)]) rfl ⟨(XT.i0_le_f c1), trivial⟩ ?_
    exact J12_2 _ (by rw [if_pos c1])
  · refine wp_run ok hK (B := [(4, .ifCond .le 7, true), (11, .iconst 0, false)]) (by decide +kernel) (pc' := 12) (L' := #[.val ((.ref a))]) (S' := [.int (0 : Int32)]) rfl ⟨(XT.i0_le_t c1), trivial⟩ ?_
    exact J12_2 _ (by rw [if_neg c1])
def k_ext : List (Nat × Value) := []
def Q_ext (Z : State) (a : Addr) (c : Int32) (r : Int32) (h0 : Heap) : Post := fun v h => v = some (.int (if (c - (1 : Int32)) = (0 : Int32) then (1 : Int32) else (0 : Int32))) ∧ Keep h0 h [a] ∧ Fld Z h a "com/example/exclude/exclude/lock/Hold" "count" "I" (.int (c - (1 : Int32))) ∧ Fld Z h a "com/example/exclude/exclude/lock/Hold" "renewedFrom" "I" (.int (if (c - (1 : Int32)) < r then (0 : Int32) else r))
theorem own_ext_1 (c : Int32) (r : Int32) (hc18 : (c - (1 : Int32)) < r) (s38_0 : Int32) (h_s38_0 : s38_0 = (if (c - (1 : Int32)) = (0 : Int32) then (1 : Int32) else (0 : Int32))) : nar .boolean s38_0 = (if (c - (1 : Int32)) = (0 : Int32) then (1 : Int32) else (0 : Int32)) := by
  subst h_s38_0; split <;> rfl
theorem own_ext_2 (c : Int32) (r : Int32) (hc18 : (c - (1 : Int32)) < r) (s38_0 : Int32) (h_s38_0 : s38_0 = (if (c - (1 : Int32)) = (0 : Int32) then (1 : Int32) else (0 : Int32))) : (0 : Int32) = (if (c - (1 : Int32)) < r then (0 : Int32) else r) := by
  simp [*]
theorem own_ext_3 (c : Int32) (r : Int32) (hc18 : ¬ ((c - (1 : Int32)) < r)) (s38_0 : Int32) (h_s38_0 : s38_0 = (if (c - (1 : Int32)) = (0 : Int32) then (1 : Int32) else (0 : Int32))) : nar .boolean s38_0 = (if (c - (1 : Int32)) = (0 : Int32) then (1 : Int32) else (0 : Int32)) := by
  subst h_s38_0; split <;> rfl
theorem own_ext_4 (c : Int32) (r : Int32) (hc18 : ¬ ((c - (1 : Int32)) < r)) (s38_0 : Int32) (h_s38_0 : s38_0 = (if (c - (1 : Int32)) = (0 : Int32) then (1 : Int32) else (0 : Int32))) : r = (if (c - (1 : Int32)) < r then (0 : Int32) else r) := by
  simp [*]
theorem pn_ext : plainFor (⟨"com/example/exclude/exclude/lock/Hold", "exit", "()Z"⟩ : MethodName) = true := by first | (refine plainFor_of_name ?_; simp [plainName, overriddenIn]; done) | decide +kernel
set_option maxRecDepth 65536 in
set_option maxHeartbeats 40000000 in
theorem c_ext (l : Launch) (Z : State) (a0 : Array Value) (hw : ∀ d ∈ tables_1, d.before a0 Z = true) (a : Addr) (c : Int32) (r : Int32) (h0 : Heap) (n0 : Nat) (Z0 : n0 ≤ h0.size) (E_a : Exa Z h0 a "com/example/exclude/exclude/lock/Hold") (F_a_count : Fld Z h0 a "com/example/exclude/exclude/lock/Hold" "count" "I" (.int c)) (F_a_renewedFrom : Fld Z h0 a "com/example/exclude/exclude/lock/Hold" "renewedFrom" "I" (.int r)) (g_a : n0 ≤ a) :
    Con l Z (⟨"com/example/exclude/exclude/lock/Hold", "exit", "()Z"⟩ : MethodName) prog_3_method_9_code 1 (some .boolean) ({ frames := 0, cells := 0, slots := 0, locals := 0 } : Room) #[(.ref a)] h0 n0 (Q_ext Z a c r h0) [] := by
  refine con_of_wp pn_ext (L0 := #[.val ((.ref a))]) (fun m => by first | (simp [entryFrame, mkF, argsToLocals, Value.category]; done) | rfl) (fun X hl ok => ?_)
  subst hl
  have hK : Konst Z a0 "com/example/exclude/exclude/lock/Hold" k_ext := trivial
  have K0 : Keep h0 h0 [a] := Keep.refl _ _
  refine wp_run ok hK (B := [(0, .aload_n 0, false), (1, .dup, false)]) (by decide +kernel) (pc' := 2) (L' := #[.val ((.ref a))]) (S' := [(.ref a), (.ref a)]) rfl trivial ?_
  refine wp_getF ok (wd hw 15 rfl) F_a_count (by decide +kernel) ?_
  refine wp_run ok hK (B := [(5, .iconst 1, false), (6, .isub, false)]) (by decide +kernel) (pc' := 7) (L' := #[.val ((.ref a))]) (S' := [.int (c - (1 : Int32)), (.ref a)]) rfl trivial ?_
  refine wp_putF ok (wd hw 15 rfl) F_a_count E_a (Or.inl (wd hw 16 rfl)) (wd hw 1 rfl) (ty := .int) (by decide) rfl rfl (by decide +kernel) g_a ?_
  intro h1 W2
  have F3 := F_a_count.same W2
  have F4 := F_a_renewedFrom.other W2 (Or.inr (slot_ne (C := "com/example/exclude/exclude/lock/Hold") (a0 := a0) (Or.inl (wd hw 18 rfl)) (Or.inl (wd hw 16 rfl)) (by decide +kernel) (t := .int) (t' := .int) (by decide +kernel) (by decide +kernel)))
  have E5 := E_a.wr W2
  have Z6 : n0 ≤ h1.size := by rw [W2.size]; exact Z0
  have K7 := K0.wr W2 (Or.inl (by simp))
  refine wp_run ok hK (B := [(10, .aload_n 0, false)]) (by decide +kernel) (pc' := 11) (L' := #[.val ((.ref a))]) (S' := [(.ref a)]) rfl trivial ?_
  refine wp_getF ok (wd hw 15 rfl) F3 (by decide +kernel) ?_
  refine wp_run ok hK (B := [(14, .aload_n 0, false)]) (by decide +kernel) (pc' := 15) (L' := #[.val ((.ref a))]) (S' := [(.ref a), .int (c - (1 : Int32))]) rfl trivial ?_
  refine wp_getF ok (wd hw 17 rfl) F4 (by decide +kernel) ?_
  by_cases hc18 : (c - (1 : Int32)) < r
  · refine wp_run ok hK (B := [(18, .if_icmp .ge 8, false)]) (by decide +kernel) (pc' := 21) (L' := #[.val ((.ref a))]) (S' := []) rfl ⟨(XT.ii_ge_f hc18), trivial⟩ ?_
    refine wp_run ok hK (B := [(21, .aload_n 0, false), (22, .iconst 0, false)]) (by decide +kernel) (pc' := 23) (L' := #[.val ((.ref a))]) (S' := [.int (0 : Int32), (.ref a)]) rfl trivial ?_
    refine wp_putF ok (wd hw 17 rfl) F4 E5 (Or.inl (wd hw 18 rfl)) (wd hw 1 rfl) (ty := .int) (by decide) rfl rfl (by decide +kernel) g_a ?_
    intro h8 W9
    have F10 := F3.other W9 (Or.inr (slot_ne (C := "com/example/exclude/exclude/lock/Hold") (a0 := a0) (Or.inl (wd hw 16 rfl)) (Or.inl (wd hw 18 rfl)) (by decide +kernel) (t := .int) (t' := .int) (by decide +kernel) (by decide +kernel)))
    have F11 := F4.same W9
    have E12 := E5.wr W9
    have Z13 : n0 ≤ h8.size := by rw [W9.size]; exact Z6
    have K14 := K7.wr W9 (Or.inl (by simp))
    refine wp_run ok hK (B := [(26, .aload_n 0, false)]) (by decide +kernel) (pc' := 27) (L' := #[.val ((.ref a))]) (S' := [(.ref a)]) rfl trivial ?_
    refine wp_getF ok (wd hw 15 rfl) F10 (by decide +kernel) ?_
    have J38_16 : ∀ (s38_0 : Int32) (h_s38_0 : s38_0 = (if (c - (1 : Int32)) = (0 : Int32) then (1 : Int32) else (0 : Int32))), WP X n0 (Q_ext Z a c r h0) h8 0 0 38 #[.val ((.ref a))] [.int s38_0] := by
      intro s38_0 h_s38_0
      refine wp_retZ ok (t := .boolean) (by simp) (by decide +kernel) (by decide) (by decide) ?_
      exact ⟨congrArg (fun z => some (Value.int z)) (own_ext_1 c r hc18 s38_0 h_s38_0), K14, F10, (Fld_c F11 (congrArg Value.int (own_ext_2 c r hc18 s38_0 h_s38_0)))⟩
    by_cases c15 : (c - (1 : Int32)) = (0 : Int32)
    · refine wp_run ok hK (B := [(30, .ifCond .ne 7, false), (33, .iconst 1, false), (34, .goto 4, false)]) (by decide +kernel) (pc' := 38) (L' := #[.val ((.ref a))]) (S' := [.int (1 : Int32)]) rfl ⟨(XT.i0_ne_f c15), trivial⟩ ?_
      exact J38_16 _ (by rw [if_pos c15])
    · refine wp_run ok hK (B := [(30, .ifCond .ne 7, true), (37, .iconst 0, false)]) (by decide +kernel) (pc' := 38) (L' := #[.val ((.ref a))]) (S' := [.int (0 : Int32)]) rfl ⟨(XT.i0_ne_t c15), trivial⟩ ?_
      exact J38_16 _ (by rw [if_neg c15])
  · refine wp_run ok hK (B := [(18, .if_icmp .ge 8, true)]) (by decide +kernel) (pc' := 26) (L' := #[.val ((.ref a))]) (S' := []) rfl ⟨(XT.ii_ge_t hc18), trivial⟩ ?_
    refine wp_run ok hK (B := [(26, .aload_n 0, false)]) (by decide +kernel) (pc' := 27) (L' := #[.val ((.ref a))]) (S' := [(.ref a)]) rfl trivial ?_
    refine wp_getF ok (wd hw 15 rfl) F3 (by decide +kernel) ?_
    have J38_18 : ∀ (s38_0 : Int32) (h_s38_0 : s38_0 = (if (c - (1 : Int32)) = (0 : Int32) then (1 : Int32) else (0 : Int32))), WP X n0 (Q_ext Z a c r h0) h1 0 0 38 #[.val ((.ref a))] [.int s38_0] := by
      intro s38_0 h_s38_0
      refine wp_retZ ok (t := .boolean) (by simp) (by decide +kernel) (by decide) (by decide) ?_
      exact ⟨congrArg (fun z => some (Value.int z)) (own_ext_3 c r hc18 s38_0 h_s38_0), K7, F3, (Fld_c F4 (congrArg Value.int (own_ext_4 c r hc18 s38_0 h_s38_0)))⟩
    by_cases c17 : (c - (1 : Int32)) = (0 : Int32)
    · refine wp_run ok hK (B := [(30, .ifCond .ne 7, false), (33, .iconst 1, false), (34, .goto 4, false)]) (by decide +kernel) (pc' := 38) (L' := #[.val ((.ref a))]) (S' := [.int (1 : Int32)]) rfl ⟨(XT.i0_ne_f c17), trivial⟩ ?_
      exact J38_18 _ (by rw [if_pos c17])
    · refine wp_run ok hK (B := [(30, .ifCond .ne 7, true), (37, .iconst 0, false)]) (by decide +kernel) (pc' := 38) (L' := #[.val ((.ref a))]) (S' := [.int (0 : Int32)]) rfl ⟨(XT.i0_ne_t c17), trivial⟩ ?_
      exact J38_18 _ (by rw [if_neg c17])
def k_law : List (Nat × Value) := []
def QL : Post := fun v _ => v = some (.int 1)
theorem own_law_1 (fl : Int32) (ti : Int64) (tk : Int64) (s11_0 : Int32) (h_s11_0 : s11_0 = (if (fl &&& (1 : Int32)) = (0 : Int32) then (0 : Int32) else (1 : Int32))) (s24_0 : Int32) (h_s24_0 : s24_0 = (if (fl &&& (2 : Int32)) = (0 : Int32) then (0 : Int32) else (1 : Int32))) (s37_0 : Int32) (h_s37_0 : s37_0 = (if (fl &&& (4 : Int32)) = (0 : Int32) then (0 : Int32) else (1 : Int32))) (s67_0 : Int32) (h_s67_0 : s67_0 = (if s11_0 = (0 : Int32) then (if s24_0 = (0 : Int32) then (if s37_0 = (0 : Int32) then (0 : Int32) else (3 : Int32)) else (2 : Int32)) else (1 : Int32))) (renewedFrom78 : Int32) (h_renewedFrom78 : renewedFrom78 = (if s11_0 = (0 : Int32) then (0 : Int32) else (1 : Int32))) (count87 : Int32) (h_count87 : count87 = ((1 : Int32) + (1 : Int32))) (renewedFrom87 : Int32) (h_renewedFrom87 : renewedFrom87 = (if s24_0 = (0 : Int32) then renewedFrom78 else (if renewedFrom78 = (0 : Int32) then ((1 : Int32) + (1 : Int32)) else renewedFrom78))) (count94 : Int32) (h_count94 : count94 = (count87 + (1 : Int32))) (renewedFrom94 : Int32) (h_renewedFrom94 : renewedFrom94 = (if s37_0 = (0 : Int32) then renewedFrom87 else (if renewedFrom87 = (0 : Int32) then (count87 + (1 : Int32)) else renewedFrom87))) : count94 = (3 : Int32) := by
  have q1 : s11_0 = 0 ∨ s11_0 = 1 := by rw [h_s11_0]; split <;> simp
  have q2 : s24_0 = 0 ∨ s24_0 = 1 := by rw [h_s24_0]; split <;> simp
  have q3 : s37_0 = 0 ∨ s37_0 = 1 := by rw [h_s37_0]; split <;> simp
  clear h_s11_0 h_s24_0 h_s37_0
  rcases q1 with rfl | rfl <;> rcases q2 with rfl | rfl <;> rcases q3 with rfl | rfl <;> simp at * <;> simp_all
theorem own_law_2 (fl : Int32) (ti : Int64) (tk : Int64) (s11_0 : Int32) (h_s11_0 : s11_0 = (if (fl &&& (1 : Int32)) = (0 : Int32) then (0 : Int32) else (1 : Int32))) (s24_0 : Int32) (h_s24_0 : s24_0 = (if (fl &&& (2 : Int32)) = (0 : Int32) then (0 : Int32) else (1 : Int32))) (s37_0 : Int32) (h_s37_0 : s37_0 = (if (fl &&& (4 : Int32)) = (0 : Int32) then (0 : Int32) else (1 : Int32))) (s67_0 : Int32) (h_s67_0 : s67_0 = (if s11_0 = (0 : Int32) then (if s24_0 = (0 : Int32) then (if s37_0 = (0 : Int32) then (0 : Int32) else (3 : Int32)) else (2 : Int32)) else (1 : Int32))) (renewedFrom78 : Int32) (h_renewedFrom78 : renewedFrom78 = (if s11_0 = (0 : Int32) then (0 : Int32) else (1 : Int32))) (count87 : Int32) (h_count87 : count87 = ((1 : Int32) + (1 : Int32))) (renewedFrom87 : Int32) (h_renewedFrom87 : renewedFrom87 = (if s24_0 = (0 : Int32) then renewedFrom78 else (if renewedFrom78 = (0 : Int32) then ((1 : Int32) + (1 : Int32)) else renewedFrom78))) (count94 : Int32) (h_count94 : count94 = (count87 + (1 : Int32))) (renewedFrom94 : Int32) (h_renewedFrom94 : renewedFrom94 = (if s37_0 = (0 : Int32) then renewedFrom87 else (if renewedFrom87 = (0 : Int32) then (count87 + (1 : Int32)) else renewedFrom87))) (z120 : Int32) (h_z120 : z120 = (if (0 : Int32) < renewedFrom94 then (1 : Int32) else (0 : Int32))) (s133_0 : Int32) (h_s133_0 : s133_0 = (if (0 : Int32) < s67_0 then (1 : Int32) else (0 : Int32))) : z120 = s133_0 := by
  have q1 : s11_0 = 0 ∨ s11_0 = 1 := by rw [h_s11_0]; split <;> simp
  have q2 : s24_0 = 0 ∨ s24_0 = 1 := by rw [h_s24_0]; split <;> simp
  have q3 : s37_0 = 0 ∨ s37_0 = 1 := by rw [h_s37_0]; split <;> simp
  clear h_s11_0 h_s24_0 h_s37_0
  rcases q1 with rfl | rfl <;> rcases q2 with rfl | rfl <;> rcases q3 with rfl | rfl <;> simp at * <;> simp_all
theorem own_law_3 (fl : Int32) (ti : Int64) (tk : Int64) (s11_0 : Int32) (h_s11_0 : s11_0 = (if (fl &&& (1 : Int32)) = (0 : Int32) then (0 : Int32) else (1 : Int32))) (s24_0 : Int32) (h_s24_0 : s24_0 = (if (fl &&& (2 : Int32)) = (0 : Int32) then (0 : Int32) else (1 : Int32))) (s37_0 : Int32) (h_s37_0 : s37_0 = (if (fl &&& (4 : Int32)) = (0 : Int32) then (0 : Int32) else (1 : Int32))) (s67_0 : Int32) (h_s67_0 : s67_0 = (if s11_0 = (0 : Int32) then (if s24_0 = (0 : Int32) then (if s37_0 = (0 : Int32) then (0 : Int32) else (3 : Int32)) else (2 : Int32)) else (1 : Int32))) (renewedFrom78 : Int32) (h_renewedFrom78 : renewedFrom78 = (if s11_0 = (0 : Int32) then (0 : Int32) else (1 : Int32))) (count87 : Int32) (h_count87 : count87 = ((1 : Int32) + (1 : Int32))) (renewedFrom87 : Int32) (h_renewedFrom87 : renewedFrom87 = (if s24_0 = (0 : Int32) then renewedFrom78 else (if renewedFrom78 = (0 : Int32) then ((1 : Int32) + (1 : Int32)) else renewedFrom78))) (count94 : Int32) (h_count94 : count94 = (count87 + (1 : Int32))) (renewedFrom94 : Int32) (h_renewedFrom94 : renewedFrom94 = (if s37_0 = (0 : Int32) then renewedFrom87 else (if renewedFrom87 = (0 : Int32) then (count87 + (1 : Int32)) else renewedFrom87))) (z120 : Int32) (h_z120 : z120 = (if (0 : Int32) < renewedFrom94 then (1 : Int32) else (0 : Int32))) (s133_0 : Int32) (h_s133_0 : s133_0 = (if (0 : Int32) < s67_0 then (1 : Int32) else (0 : Int32))) (z145 : Int32) (h_z145 : z145 = (if (count94 - (1 : Int32)) = (0 : Int32) then (1 : Int32) else (0 : Int32))) (count145 : Int32) (h_count145 : count145 = (count94 - (1 : Int32))) (renewedFrom145 : Int32) (h_renewedFrom145 : renewedFrom145 = (if (count94 - (1 : Int32)) < renewedFrom94 then (0 : Int32) else renewedFrom94)) : z145 = (0 : Int32) := by
  have q1 : s11_0 = 0 ∨ s11_0 = 1 := by rw [h_s11_0]; split <;> simp
  have q2 : s24_0 = 0 ∨ s24_0 = 1 := by rw [h_s24_0]; split <;> simp
  have q3 : s37_0 = 0 ∨ s37_0 = 1 := by rw [h_s37_0]; split <;> simp
  clear h_s11_0 h_s24_0 h_s37_0
  rcases q1 with rfl | rfl <;> rcases q2 with rfl | rfl <;> rcases q3 with rfl | rfl <;> simp at * <;> simp_all
theorem own_law_4 (fl : Int32) (ti : Int64) (tk : Int64) (s11_0 : Int32) (h_s11_0 : s11_0 = (if (fl &&& (1 : Int32)) = (0 : Int32) then (0 : Int32) else (1 : Int32))) (s24_0 : Int32) (h_s24_0 : s24_0 = (if (fl &&& (2 : Int32)) = (0 : Int32) then (0 : Int32) else (1 : Int32))) (s37_0 : Int32) (h_s37_0 : s37_0 = (if (fl &&& (4 : Int32)) = (0 : Int32) then (0 : Int32) else (1 : Int32))) (s67_0 : Int32) (h_s67_0 : s67_0 = (if s11_0 = (0 : Int32) then (if s24_0 = (0 : Int32) then (if s37_0 = (0 : Int32) then (0 : Int32) else (3 : Int32)) else (2 : Int32)) else (1 : Int32))) (renewedFrom78 : Int32) (h_renewedFrom78 : renewedFrom78 = (if s11_0 = (0 : Int32) then (0 : Int32) else (1 : Int32))) (count87 : Int32) (h_count87 : count87 = ((1 : Int32) + (1 : Int32))) (renewedFrom87 : Int32) (h_renewedFrom87 : renewedFrom87 = (if s24_0 = (0 : Int32) then renewedFrom78 else (if renewedFrom78 = (0 : Int32) then ((1 : Int32) + (1 : Int32)) else renewedFrom78))) (count94 : Int32) (h_count94 : count94 = (count87 + (1 : Int32))) (renewedFrom94 : Int32) (h_renewedFrom94 : renewedFrom94 = (if s37_0 = (0 : Int32) then renewedFrom87 else (if renewedFrom87 = (0 : Int32) then (count87 + (1 : Int32)) else renewedFrom87))) (z120 : Int32) (h_z120 : z120 = (if (0 : Int32) < renewedFrom94 then (1 : Int32) else (0 : Int32))) (s133_0 : Int32) (h_s133_0 : s133_0 = (if (0 : Int32) < s67_0 then (1 : Int32) else (0 : Int32))) (z145 : Int32) (h_z145 : z145 = (if (count94 - (1 : Int32)) = (0 : Int32) then (1 : Int32) else (0 : Int32))) (count145 : Int32) (h_count145 : count145 = (count94 - (1 : Int32))) (renewedFrom145 : Int32) (h_renewedFrom145 : renewedFrom145 = (if (count94 - (1 : Int32)) < renewedFrom94 then (0 : Int32) else renewedFrom94)) (z162 : Int32) (h_z162 : z162 = (if (0 : Int32) < renewedFrom145 then (1 : Int32) else (0 : Int32))) (s181_0 : Int32) (h_s181_0 : s181_0 = (if (0 : Int32) < s67_0 then (if (2 : Int32) < s67_0 then (0 : Int32) else (1 : Int32)) else (0 : Int32))) : z162 = s181_0 := by
  have q1 : s11_0 = 0 ∨ s11_0 = 1 := by rw [h_s11_0]; split <;> simp
  have q2 : s24_0 = 0 ∨ s24_0 = 1 := by rw [h_s24_0]; split <;> simp
  have q3 : s37_0 = 0 ∨ s37_0 = 1 := by rw [h_s37_0]; split <;> simp
  clear h_s11_0 h_s24_0 h_s37_0
  rcases q1 with rfl | rfl <;> rcases q2 with rfl | rfl <;> rcases q3 with rfl | rfl <;> simp at * <;> simp_all
theorem own_law_5 (fl : Int32) (ti : Int64) (tk : Int64) (s11_0 : Int32) (h_s11_0 : s11_0 = (if (fl &&& (1 : Int32)) = (0 : Int32) then (0 : Int32) else (1 : Int32))) (s24_0 : Int32) (h_s24_0 : s24_0 = (if (fl &&& (2 : Int32)) = (0 : Int32) then (0 : Int32) else (1 : Int32))) (s37_0 : Int32) (h_s37_0 : s37_0 = (if (fl &&& (4 : Int32)) = (0 : Int32) then (0 : Int32) else (1 : Int32))) (s67_0 : Int32) (h_s67_0 : s67_0 = (if s11_0 = (0 : Int32) then (if s24_0 = (0 : Int32) then (if s37_0 = (0 : Int32) then (0 : Int32) else (3 : Int32)) else (2 : Int32)) else (1 : Int32))) (renewedFrom78 : Int32) (h_renewedFrom78 : renewedFrom78 = (if s11_0 = (0 : Int32) then (0 : Int32) else (1 : Int32))) (count87 : Int32) (h_count87 : count87 = ((1 : Int32) + (1 : Int32))) (renewedFrom87 : Int32) (h_renewedFrom87 : renewedFrom87 = (if s24_0 = (0 : Int32) then renewedFrom78 else (if renewedFrom78 = (0 : Int32) then ((1 : Int32) + (1 : Int32)) else renewedFrom78))) (count94 : Int32) (h_count94 : count94 = (count87 + (1 : Int32))) (renewedFrom94 : Int32) (h_renewedFrom94 : renewedFrom94 = (if s37_0 = (0 : Int32) then renewedFrom87 else (if renewedFrom87 = (0 : Int32) then (count87 + (1 : Int32)) else renewedFrom87))) (z120 : Int32) (h_z120 : z120 = (if (0 : Int32) < renewedFrom94 then (1 : Int32) else (0 : Int32))) (s133_0 : Int32) (h_s133_0 : s133_0 = (if (0 : Int32) < s67_0 then (1 : Int32) else (0 : Int32))) (z145 : Int32) (h_z145 : z145 = (if (count94 - (1 : Int32)) = (0 : Int32) then (1 : Int32) else (0 : Int32))) (count145 : Int32) (h_count145 : count145 = (count94 - (1 : Int32))) (renewedFrom145 : Int32) (h_renewedFrom145 : renewedFrom145 = (if (count94 - (1 : Int32)) < renewedFrom94 then (0 : Int32) else renewedFrom94)) (z162 : Int32) (h_z162 : z162 = (if (0 : Int32) < renewedFrom145 then (1 : Int32) else (0 : Int32))) (s181_0 : Int32) (h_s181_0 : s181_0 = (if (0 : Int32) < s67_0 then (if (2 : Int32) < s67_0 then (0 : Int32) else (1 : Int32)) else (0 : Int32))) (z193 : Int32) (h_z193 : z193 = (if (count145 - (1 : Int32)) = (0 : Int32) then (1 : Int32) else (0 : Int32))) (count193 : Int32) (h_count193 : count193 = (count145 - (1 : Int32))) (renewedFrom193 : Int32) (h_renewedFrom193 : renewedFrom193 = (if (count145 - (1 : Int32)) < renewedFrom145 then (0 : Int32) else renewedFrom145)) : z193 = (0 : Int32) := by
  have q1 : s11_0 = 0 ∨ s11_0 = 1 := by rw [h_s11_0]; split <;> simp
  have q2 : s24_0 = 0 ∨ s24_0 = 1 := by rw [h_s24_0]; split <;> simp
  have q3 : s37_0 = 0 ∨ s37_0 = 1 := by rw [h_s37_0]; split <;> simp
  clear h_s11_0 h_s24_0 h_s37_0
  rcases q1 with rfl | rfl <;> rcases q2 with rfl | rfl <;> rcases q3 with rfl | rfl <;> simp at * <;> simp_all
theorem own_law_6 (fl : Int32) (ti : Int64) (tk : Int64) (s11_0 : Int32) (h_s11_0 : s11_0 = (if (fl &&& (1 : Int32)) = (0 : Int32) then (0 : Int32) else (1 : Int32))) (s24_0 : Int32) (h_s24_0 : s24_0 = (if (fl &&& (2 : Int32)) = (0 : Int32) then (0 : Int32) else (1 : Int32))) (s37_0 : Int32) (h_s37_0 : s37_0 = (if (fl &&& (4 : Int32)) = (0 : Int32) then (0 : Int32) else (1 : Int32))) (s67_0 : Int32) (h_s67_0 : s67_0 = (if s11_0 = (0 : Int32) then (if s24_0 = (0 : Int32) then (if s37_0 = (0 : Int32) then (0 : Int32) else (3 : Int32)) else (2 : Int32)) else (1 : Int32))) (renewedFrom78 : Int32) (h_renewedFrom78 : renewedFrom78 = (if s11_0 = (0 : Int32) then (0 : Int32) else (1 : Int32))) (count87 : Int32) (h_count87 : count87 = ((1 : Int32) + (1 : Int32))) (renewedFrom87 : Int32) (h_renewedFrom87 : renewedFrom87 = (if s24_0 = (0 : Int32) then renewedFrom78 else (if renewedFrom78 = (0 : Int32) then ((1 : Int32) + (1 : Int32)) else renewedFrom78))) (count94 : Int32) (h_count94 : count94 = (count87 + (1 : Int32))) (renewedFrom94 : Int32) (h_renewedFrom94 : renewedFrom94 = (if s37_0 = (0 : Int32) then renewedFrom87 else (if renewedFrom87 = (0 : Int32) then (count87 + (1 : Int32)) else renewedFrom87))) (z120 : Int32) (h_z120 : z120 = (if (0 : Int32) < renewedFrom94 then (1 : Int32) else (0 : Int32))) (s133_0 : Int32) (h_s133_0 : s133_0 = (if (0 : Int32) < s67_0 then (1 : Int32) else (0 : Int32))) (z145 : Int32) (h_z145 : z145 = (if (count94 - (1 : Int32)) = (0 : Int32) then (1 : Int32) else (0 : Int32))) (count145 : Int32) (h_count145 : count145 = (count94 - (1 : Int32))) (renewedFrom145 : Int32) (h_renewedFrom145 : renewedFrom145 = (if (count94 - (1 : Int32)) < renewedFrom94 then (0 : Int32) else renewedFrom94)) (z162 : Int32) (h_z162 : z162 = (if (0 : Int32) < renewedFrom145 then (1 : Int32) else (0 : Int32))) (s181_0 : Int32) (h_s181_0 : s181_0 = (if (0 : Int32) < s67_0 then (if (2 : Int32) < s67_0 then (0 : Int32) else (1 : Int32)) else (0 : Int32))) (z193 : Int32) (h_z193 : z193 = (if (count145 - (1 : Int32)) = (0 : Int32) then (1 : Int32) else (0 : Int32))) (count193 : Int32) (h_count193 : count193 = (count145 - (1 : Int32))) (renewedFrom193 : Int32) (h_renewedFrom193 : renewedFrom193 = (if (count145 - (1 : Int32)) < renewedFrom145 then (0 : Int32) else renewedFrom145)) (z210 : Int32) (h_z210 : z210 = (if (0 : Int32) < renewedFrom193 then (1 : Int32) else (0 : Int32))) (s224_0 : Int32) (h_s224_0 : s224_0 = (if s67_0 = (1 : Int32) then (1 : Int32) else (0 : Int32))) : z210 = s224_0 := by
  have q1 : s11_0 = 0 ∨ s11_0 = 1 := by rw [h_s11_0]; split <;> simp
  have q2 : s24_0 = 0 ∨ s24_0 = 1 := by rw [h_s24_0]; split <;> simp
  have q3 : s37_0 = 0 ∨ s37_0 = 1 := by rw [h_s37_0]; split <;> simp
  clear h_s11_0 h_s24_0 h_s37_0
  rcases q1 with rfl | rfl <;> rcases q2 with rfl | rfl <;> rcases q3 with rfl | rfl <;> simp at * <;> simp_all
theorem own_law_7 (fl : Int32) (ti : Int64) (tk : Int64) (s11_0 : Int32) (h_s11_0 : s11_0 = (if (fl &&& (1 : Int32)) = (0 : Int32) then (0 : Int32) else (1 : Int32))) (s24_0 : Int32) (h_s24_0 : s24_0 = (if (fl &&& (2 : Int32)) = (0 : Int32) then (0 : Int32) else (1 : Int32))) (s37_0 : Int32) (h_s37_0 : s37_0 = (if (fl &&& (4 : Int32)) = (0 : Int32) then (0 : Int32) else (1 : Int32))) (s67_0 : Int32) (h_s67_0 : s67_0 = (if s11_0 = (0 : Int32) then (if s24_0 = (0 : Int32) then (if s37_0 = (0 : Int32) then (0 : Int32) else (3 : Int32)) else (2 : Int32)) else (1 : Int32))) (renewedFrom78 : Int32) (h_renewedFrom78 : renewedFrom78 = (if s11_0 = (0 : Int32) then (0 : Int32) else (1 : Int32))) (count87 : Int32) (h_count87 : count87 = ((1 : Int32) + (1 : Int32))) (renewedFrom87 : Int32) (h_renewedFrom87 : renewedFrom87 = (if s24_0 = (0 : Int32) then renewedFrom78 else (if renewedFrom78 = (0 : Int32) then ((1 : Int32) + (1 : Int32)) else renewedFrom78))) (count94 : Int32) (h_count94 : count94 = (count87 + (1 : Int32))) (renewedFrom94 : Int32) (h_renewedFrom94 : renewedFrom94 = (if s37_0 = (0 : Int32) then renewedFrom87 else (if renewedFrom87 = (0 : Int32) then (count87 + (1 : Int32)) else renewedFrom87))) (z120 : Int32) (h_z120 : z120 = (if (0 : Int32) < renewedFrom94 then (1 : Int32) else (0 : Int32))) (s133_0 : Int32) (h_s133_0 : s133_0 = (if (0 : Int32) < s67_0 then (1 : Int32) else (0 : Int32))) (z145 : Int32) (h_z145 : z145 = (if (count94 - (1 : Int32)) = (0 : Int32) then (1 : Int32) else (0 : Int32))) (count145 : Int32) (h_count145 : count145 = (count94 - (1 : Int32))) (renewedFrom145 : Int32) (h_renewedFrom145 : renewedFrom145 = (if (count94 - (1 : Int32)) < renewedFrom94 then (0 : Int32) else renewedFrom94)) (z162 : Int32) (h_z162 : z162 = (if (0 : Int32) < renewedFrom145 then (1 : Int32) else (0 : Int32))) (s181_0 : Int32) (h_s181_0 : s181_0 = (if (0 : Int32) < s67_0 then (if (2 : Int32) < s67_0 then (0 : Int32) else (1 : Int32)) else (0 : Int32))) (z193 : Int32) (h_z193 : z193 = (if (count145 - (1 : Int32)) = (0 : Int32) then (1 : Int32) else (0 : Int32))) (count193 : Int32) (h_count193 : count193 = (count145 - (1 : Int32))) (renewedFrom193 : Int32) (h_renewedFrom193 : renewedFrom193 = (if (count145 - (1 : Int32)) < renewedFrom145 then (0 : Int32) else renewedFrom145)) (z210 : Int32) (h_z210 : z210 = (if (0 : Int32) < renewedFrom193 then (1 : Int32) else (0 : Int32))) (s224_0 : Int32) (h_s224_0 : s224_0 = (if s67_0 = (1 : Int32) then (1 : Int32) else (0 : Int32))) (z236 : Int32) (h_z236 : z236 = (if (count193 - (1 : Int32)) = (0 : Int32) then (1 : Int32) else (0 : Int32))) (count236 : Int32) (h_count236 : count236 = (count193 - (1 : Int32))) (renewedFrom236 : Int32) (h_renewedFrom236 : renewedFrom236 = (if (count193 - (1 : Int32)) < renewedFrom193 then (0 : Int32) else renewedFrom193)) : ¬ (z236 = (0 : Int32)) := by
  have q1 : s11_0 = 0 ∨ s11_0 = 1 := by rw [h_s11_0]; split <;> simp
  have q2 : s24_0 = 0 ∨ s24_0 = 1 := by rw [h_s24_0]; split <;> simp
  have q3 : s37_0 = 0 ∨ s37_0 = 1 := by rw [h_s37_0]; split <;> simp
  clear h_s11_0 h_s24_0 h_s37_0
  rcases q1 with rfl | rfl <;> rcases q2 with rfl | rfl <;> rcases q3 with rfl | rfl <;> simp at * <;> simp_all
theorem own_law_8 (fl : Int32) (ti : Int64) (tk : Int64) (s11_0 : Int32) (h_s11_0 : s11_0 = (if (fl &&& (1 : Int32)) = (0 : Int32) then (0 : Int32) else (1 : Int32))) (s24_0 : Int32) (h_s24_0 : s24_0 = (if (fl &&& (2 : Int32)) = (0 : Int32) then (0 : Int32) else (1 : Int32))) (s37_0 : Int32) (h_s37_0 : s37_0 = (if (fl &&& (4 : Int32)) = (0 : Int32) then (0 : Int32) else (1 : Int32))) (s67_0 : Int32) (h_s67_0 : s67_0 = (if s11_0 = (0 : Int32) then (if s24_0 = (0 : Int32) then (if s37_0 = (0 : Int32) then (0 : Int32) else (3 : Int32)) else (2 : Int32)) else (1 : Int32))) (renewedFrom78 : Int32) (h_renewedFrom78 : renewedFrom78 = (if s11_0 = (0 : Int32) then (0 : Int32) else (1 : Int32))) (count87 : Int32) (h_count87 : count87 = ((1 : Int32) + (1 : Int32))) (renewedFrom87 : Int32) (h_renewedFrom87 : renewedFrom87 = (if s24_0 = (0 : Int32) then renewedFrom78 else (if renewedFrom78 = (0 : Int32) then ((1 : Int32) + (1 : Int32)) else renewedFrom78))) (count94 : Int32) (h_count94 : count94 = (count87 + (1 : Int32))) (renewedFrom94 : Int32) (h_renewedFrom94 : renewedFrom94 = (if s37_0 = (0 : Int32) then renewedFrom87 else (if renewedFrom87 = (0 : Int32) then (count87 + (1 : Int32)) else renewedFrom87))) (z120 : Int32) (h_z120 : z120 = (if (0 : Int32) < renewedFrom94 then (1 : Int32) else (0 : Int32))) (s133_0 : Int32) (h_s133_0 : s133_0 = (if (0 : Int32) < s67_0 then (1 : Int32) else (0 : Int32))) (z145 : Int32) (h_z145 : z145 = (if (count94 - (1 : Int32)) = (0 : Int32) then (1 : Int32) else (0 : Int32))) (count145 : Int32) (h_count145 : count145 = (count94 - (1 : Int32))) (renewedFrom145 : Int32) (h_renewedFrom145 : renewedFrom145 = (if (count94 - (1 : Int32)) < renewedFrom94 then (0 : Int32) else renewedFrom94)) (z162 : Int32) (h_z162 : z162 = (if (0 : Int32) < renewedFrom145 then (1 : Int32) else (0 : Int32))) (s181_0 : Int32) (h_s181_0 : s181_0 = (if (0 : Int32) < s67_0 then (if (2 : Int32) < s67_0 then (0 : Int32) else (1 : Int32)) else (0 : Int32))) (z193 : Int32) (h_z193 : z193 = (if (count145 - (1 : Int32)) = (0 : Int32) then (1 : Int32) else (0 : Int32))) (count193 : Int32) (h_count193 : count193 = (count145 - (1 : Int32))) (renewedFrom193 : Int32) (h_renewedFrom193 : renewedFrom193 = (if (count145 - (1 : Int32)) < renewedFrom145 then (0 : Int32) else renewedFrom145)) (z210 : Int32) (h_z210 : z210 = (if (0 : Int32) < renewedFrom193 then (1 : Int32) else (0 : Int32))) (s224_0 : Int32) (h_s224_0 : s224_0 = (if s67_0 = (1 : Int32) then (1 : Int32) else (0 : Int32))) (z236 : Int32) (h_z236 : z236 = (if (count193 - (1 : Int32)) = (0 : Int32) then (1 : Int32) else (0 : Int32))) (count236 : Int32) (h_count236 : count236 = (count193 - (1 : Int32))) (renewedFrom236 : Int32) (h_renewedFrom236 : renewedFrom236 = (if (count193 - (1 : Int32)) < renewedFrom193 then (0 : Int32) else renewedFrom193)) : nar .boolean (1 : Int32) = 1 := by
  rfl
theorem pn_law : plainFor x = true := by first | (refine plainFor_of_name ?_; show plainName "com/example/exclude/exclude/lock/HoldEnterAgainPinLaw" = true; simp [plainName, overriddenIn]; done) | decide +kernel
set_option maxRecDepth 65536 in
set_option maxHeartbeats 40000000 in
theorem c_law (l : Launch) (Z : State) (a0 : Array Value) (hw : ∀ d ∈ tables_1, d.before a0 Z = true) (fl : Int32) (ti : Int64) (tk : Int64) (h0 : Heap) (n0 : Nat) (Z0 : n0 ≤ h0.size) :
    Con l Z x code maxLocals ret room_1 #[.int fl, .long ti, .long tk] h0 n0 QL tables_1 := by
  refine con_of_wp pn_law (L0 := #[.val (.int fl), .val (.long ti), .second, .val (.long tk), .second, .unset, .unset, .unset, .unset, .unset, .unset, .unset, .unset, .unset]) (fun m => by first | (simp [entryFrame, mkF, argsToLocals, Value.category, maxLocals]; done) | rfl) (fun X hl ok => ?_)
  subst hl
  have hK : Konst Z a0 "com/example/exclude/exclude/lock/HoldEnterAgainPinLaw" k_law := trivial
  refine wp_run ok hK (B := [(0, .iload_n 0, false), (1, .iconst 1, false), (2, .iand, false)]) (by decide +kernel) (pc' := 3) (L' := #[.val (.int fl), .val (.long ti), .second, .val (.long tk), .second, .unset, .unset, .unset, .unset, .unset, .unset, .unset, .unset, .unset]) (S' := [.int (fl &&& (1 : Int32))]) rfl trivial ?_
  have J11_2 : ∀ (s11_0 : Int32) (h_s11_0 : s11_0 = (if (fl &&& (1 : Int32)) = (0 : Int32) then (0 : Int32) else (1 : Int32))), WP X n0 QL h0 0 0 11 #[.val (.int fl), .val (.long ti), .second, .val (.long tk), .second, .unset, .unset, .unset, .unset, .unset, .unset, .unset, .unset, .unset] [.int s11_0] := by
    intro s11_0 h_s11_0
    refine wp_run ok hK (B := [(11, .istore 5, false), (13, .iload_n 0, false), (14, .iconst 2, false), (15, .iand, false)]) (by decide +kernel) (pc' := 16) (L' := #[.val (.int fl), .val (.long ti), .second, .val (.long tk), .second, .val (.int s11_0), .unset, .unset, .unset, .unset, .unset, .unset, .unset, .unset]) (S' := [.int (fl &&& (2 : Int32))]) rfl trivial ?_
    have J24_4 : ∀ (s24_0 : Int32) (h_s24_0 : s24_0 = (if (fl &&& (2 : Int32)) = (0 : Int32) then (0 : Int32) else (1 : Int32))), WP X n0 QL h0 0 0 24 #[.val (.int fl), .val (.long ti), .second, .val (.long tk), .second, .val (.int s11_0), .unset, .unset, .unset, .unset, .unset, .unset, .unset, .unset] [.int s24_0] := by
      intro s24_0 h_s24_0
      refine wp_run ok hK (B := [(24, .istore 6, false), (26, .iload_n 0, false), (27, .iconst 4, false), (28, .iand, false)]) (by decide +kernel) (pc' := 29) (L' := #[.val (.int fl), .val (.long ti), .second, .val (.long tk), .second, .val (.int s11_0), .val (.int s24_0), .unset, .unset, .unset, .unset, .unset, .unset, .unset]) (S' := [.int (fl &&& (4 : Int32))]) rfl trivial ?_
      have J37_6 : ∀ (s37_0 : Int32) (h_s37_0 : s37_0 = (if (fl &&& (4 : Int32)) = (0 : Int32) then (0 : Int32) else (1 : Int32))), WP X n0 QL h0 0 0 37 #[.val (.int fl), .val (.long ti), .second, .val (.long tk), .second, .val (.int s11_0), .val (.int s24_0), .unset, .unset, .unset, .unset, .unset, .unset, .unset] [.int s37_0] := by
        intro s37_0 h_s37_0
        refine wp_run ok hK (B := [(37, .istore 7, false), (39, .iload 5, false)]) (by decide +kernel) (pc' := 41) (L' := #[.val (.int fl), .val (.long ti), .second, .val (.long tk), .second, .val (.int s11_0), .val (.int s24_0), .val (.int s37_0), .unset, .unset, .unset, .unset, .unset, .unset]) (S' := [.int s11_0]) rfl trivial ?_
        have J67_10 : ∀ (s67_0 : Int32) (h_s67_0 : s67_0 = (if s11_0 = (0 : Int32) then (if s24_0 = (0 : Int32) then (if s37_0 = (0 : Int32) then (0 : Int32) else (3 : Int32)) else (2 : Int32)) else (1 : Int32))), WP X n0 QL h0 0 0 67 #[.val (.int fl), .val (.long ti), .second, .val (.long tk), .second, .val (.int s11_0), .val (.int s24_0), .val (.int s37_0), .unset, .unset, .unset, .unset, .unset, .unset] [.int s67_0] := by
          intro s67_0 h_s67_0
          refine wp_run ok hK (B := [(67, .istore 8, false)]) (by decide +kernel) (pc' := 69) (L' := #[.val (.int fl), .val (.long ti), .second, .val (.long tk), .second, .val (.int s11_0), .val (.int s24_0), .val (.int s37_0), .val (.int s67_0), .unset, .unset, .unset, .unset, .unset]) (S' := []) rfl trivial ?_
          refine wp_new ok (wd hw 0 rfl) (wd hw 1 rfl) (wd hw 2 rfl) (by decide +kernel) (by decide) (by decide) ?_
          intro h11 a12 ea13 X14 E15 D16
          have Z17 : n0 ≤ h11.size := Nat.le_trans Z0 X14.1
          have g18 : n0 ≤ a12 := by rw [ea13]; exact Z0
          have F19 : Fld Z h11 a12 "com/example/exclude/exclude/lock/Hold" "threadId" "J" (.long (0 : Int64)) := D16 (Or.inr (wd hw 10 rfl)) (ty := .long) (by decide)
          have F20 : Fld Z h11 a12 "com/example/exclude/exclude/lock/Hold" "lease" "Lcom/example/exclude/exclude/lease/Lease;" (.null) := D16 (Or.inr (wd hw 12 rfl)) (ty := (.object "com/example/exclude/exclude/lease/Lease")) (by decide)
          have F21 : Fld Z h11 a12 "com/example/exclude/exclude/lock/Hold" "fencingToken" "J" (.long (0 : Int64)) := D16 (Or.inr (wd hw 14 rfl)) (ty := .long) (by decide)
          have F22 : Fld Z h11 a12 "com/example/exclude/exclude/lock/Hold" "count" "I" (.int (0 : Int32)) := D16 (Or.inl (wd hw 16 rfl)) (ty := .int) (by decide)
          have F23 : Fld Z h11 a12 "com/example/exclude/exclude/lock/Hold" "renewedFrom" "I" (.int (0 : Int32)) := D16 (Or.inl (wd hw 18 rfl)) (ty := .int) (by decide)
          refine wp_run ok hK (B := [(72, .dup, false), (73, .lload_n 1, false), (74, .aconst_null, false), (75, .lload_n 3, false), (76, .iload 5, false)]) (by decide +kernel) (pc' := 78) (L' := #[.val (.int fl), .val (.long ti), .second, .val (.long tk), .second, .val (.int s11_0), .val (.int s24_0), .val (.int s37_0), .val (.int s67_0), .unset, .unset, .unset, .unset, .unset]) (S' := [.int s11_0, .long tk, .null, .long ti, (.ref a12), (.ref a12)]) rfl trivial ?_
          refine wp_special ok rfl (wd hw 3 rfl) (wd hw 4 rfl) (wd hw 2 rfl) (wd hw 5 rfl) (by decide) (argsL := [.long ti, .null, .long tk, .int s11_0]) (rest := [(.ref a12)]) (c_ini _ Z a0 hw a12 ti tk s11_0 (0 : Int64) (0 : Int64) (0 : Int32) (0 : Int32) h11 n0 Z17 E15 F19 F20 F21 F22 F23 g18) (ps := [.long, (.object "com/example/exclude/exclude/lease/Lease"), .long, .boolean]) (by decide +kernel) (by rfl) (by rfl) (by rfl) (by decide +kernel) (by decide) (Nat.le_of_ble_eq_true rfl) (by decide) (by decide) ?_
          intro r24 h25 q26
          obtain ⟨rfl, K27, F28, F29, F30, F31, F32⟩ := q26
          have E33 := E15.keep K27
          obtain ⟨renewedFrom78, h_renewedFrom78⟩ : ∃ z : Int32, z = (if s11_0 = (0 : Int32) then (0 : Int32) else (1 : Int32)) := ⟨_, rfl⟩
          rw [← h_renewedFrom78] at F32
          have Z34 : n0 ≤ h25.size := Nat.le_trans Z17 K27.1
          show WP X n0 QL h25 1 5 81 #[.val (.int fl), .val (.long ti), .second, .val (.long tk), .second, .val (.int s11_0), .val (.int s24_0), .val (.int s37_0), .val (.int s67_0), .unset, .unset, .unset, .unset, .unset] [(.ref a12)]
          refine wp_run ok hK (B := [(81, .astore 9, false), (83, .aload 9, false), (85, .iload 6, false)]) (by decide +kernel) (pc' := 87) (L' := #[.val (.int fl), .val (.long ti), .second, .val (.long tk), .second, .val (.int s11_0), .val (.int s24_0), .val (.int s37_0), .val (.int s67_0), .val ((.ref a12)), .unset, .unset, .unset, .unset]) (S' := [.int s24_0, (.ref a12)]) rfl trivial ?_
          refine wp_virtual ok (wd hw 19 rfl) (wd hw 20 rfl) (wd hw 22 rfl) (wd hw 21 rfl) (wd hw 2 rfl) (wd hw 23 rfl) (by decide) (argsL := [.int s24_0]) (rest := []) E33 (c_ent _ Z a0 hw a12 s24_0 (1 : Int32) renewedFrom78 h25 n0 Z34 E33 F31 F32 g18) (ps := [.boolean]) (by decide +kernel) (by rfl) (by rfl) (by rfl) (by decide +kernel) (by decide) (Nat.le_of_ble_eq_true rfl) (by decide) (by decide) ?_
          intro r35 h36 q37
          obtain ⟨rfl, K38, F39, F40⟩ := q37
          have E41 := E33.keep K38
          obtain ⟨count87, h_count87⟩ : ∃ z : Int32, z = ((1 : Int32) + (1 : Int32)) := ⟨_, rfl⟩
          rw [← h_count87] at F39
          obtain ⟨renewedFrom87, h_renewedFrom87⟩ : ∃ z : Int32, z = (if s24_0 = (0 : Int32) then renewedFrom78 else (if renewedFrom78 = (0 : Int32) then ((1 : Int32) + (1 : Int32)) else renewedFrom78)) := ⟨_, rfl⟩
          rw [← h_renewedFrom87] at F40
          have Z42 : n0 ≤ h36.size := Nat.le_trans Z34 K38.1
          show WP X n0 QL h36 1 5 90 #[.val (.int fl), .val (.long ti), .second, .val (.long tk), .second, .val (.int s11_0), .val (.int s24_0), .val (.int s37_0), .val (.int s67_0), .val ((.ref a12)), .unset, .unset, .unset, .unset] []
          refine wp_run ok hK (B := [(90, .aload 9, false), (92, .iload 7, false)]) (by decide +kernel) (pc' := 94) (L' := #[.val (.int fl), .val (.long ti), .second, .val (.long tk), .second, .val (.int s11_0), .val (.int s24_0), .val (.int s37_0), .val (.int s67_0), .val ((.ref a12)), .unset, .unset, .unset, .unset]) (S' := [.int s37_0, (.ref a12)]) rfl trivial ?_
          refine wp_virtual ok (wd hw 19 rfl) (wd hw 20 rfl) (wd hw 22 rfl) (wd hw 21 rfl) (wd hw 2 rfl) (wd hw 23 rfl) (by decide) (argsL := [.int s37_0]) (rest := []) E41 (c_ent _ Z a0 hw a12 s37_0 count87 renewedFrom87 h36 n0 Z42 E41 F39 F40 g18) (ps := [.boolean]) (by decide +kernel) (by rfl) (by rfl) (by rfl) (by decide +kernel) (by decide) (Nat.le_of_ble_eq_true rfl) (by decide) (by decide) ?_
          intro r43 h44 q45
          obtain ⟨rfl, K46, F47, F48⟩ := q45
          have E49 := E41.keep K46
          obtain ⟨count94, h_count94⟩ : ∃ z : Int32, z = (count87 + (1 : Int32)) := ⟨_, rfl⟩
          rw [← h_count94] at F47
          obtain ⟨renewedFrom94, h_renewedFrom94⟩ : ∃ z : Int32, z = (if s37_0 = (0 : Int32) then renewedFrom87 else (if renewedFrom87 = (0 : Int32) then (count87 + (1 : Int32)) else renewedFrom87)) := ⟨_, rfl⟩
          rw [← h_renewedFrom94] at F48
          have Z50 : n0 ≤ h44.size := Nat.le_trans Z42 K46.1
          show WP X n0 QL h44 1 5 97 #[.val (.int fl), .val (.long ti), .second, .val (.long tk), .second, .val (.int s11_0), .val (.int s24_0), .val (.int s37_0), .val (.int s67_0), .val ((.ref a12)), .unset, .unset, .unset, .unset] []
          refine wp_run ok hK (B := [(97, .aload 9, false)]) (by decide +kernel) (pc' := 99) (L' := #[.val (.int fl), .val (.long ti), .second, .val (.long tk), .second, .val (.int s11_0), .val (.int s24_0), .val (.int s37_0), .val (.int s67_0), .val ((.ref a12)), .unset, .unset, .unset, .unset]) (S' := [(.ref a12)]) rfl trivial ?_
          refine wp_virtual ok (wd hw 24 rfl) (wd hw 25 rfl) (wd hw 27 rfl) (wd hw 26 rfl) (wd hw 2 rfl) (wd hw 28 rfl) (by decide) (argsL := []) (rest := []) E49 (c_cnt _ Z a0 hw a12 count94 h44 n0 Z50 E49 F47 g18) (ps := []) (by decide +kernel) (by rfl) (by rfl) (by rfl) (by decide +kernel) (by decide) (Nat.le_of_ble_eq_true rfl) (by decide) (by decide) ?_
          intro r51 h52 q53
          obtain ⟨rfl, rfl⟩ := q53
          show WP X n0 QL h44 1 5 102 #[.val (.int fl), .val (.long ti), .second, .val (.long tk), .second, .val (.int s11_0), .val (.int s24_0), .val (.int s37_0), .val (.int s67_0), .val ((.ref a12)), .unset, .unset, .unset, .unset] [.int count94]
          refine wp_run ok hK (B := [(102, .iconst 3, false), (103, .if_icmp .ne 7, false), (106, .iconst 1, false), (107, .goto 4, false), (111, .istore 10, false), (113, .iload 10, false), (115, .ifCond .eq 25, false), (118, .aload 9, false)]) (by decide +kernel) (pc' := 120) (L' := #[.val (.int fl), .val (.long ti), .second, .val (.long tk), .second, .val (.int s11_0), .val (.int s24_0), .val (.int s37_0), .val (.int s67_0), .val ((.ref a12)), .val (.int (1 : Int32)), .unset, .unset, .unset]) (S' := [(.ref a12)]) rfl ⟨(XT.ii_ne_f (own_law_1 fl ti tk s11_0 h_s11_0 s24_0 h_s24_0 s37_0 h_s37_0 s67_0 h_s67_0 renewedFrom78 h_renewedFrom78 count87 h_count87 renewedFrom87 h_renewedFrom87 count94 h_count94 renewedFrom94 h_renewedFrom94)), (XT.i0_eq_f (by decide)), trivial⟩ ?_
          refine wp_virtual ok (wd hw 29 rfl) (wd hw 30 rfl) (wd hw 32 rfl) (wd hw 31 rfl) (wd hw 2 rfl) (wd hw 33 rfl) (by decide) (argsL := []) (rest := []) E49 (c_ren _ Z a0 hw a12 renewedFrom94 h44 n0 Z50 E49 F48 g18) (ps := []) (by decide +kernel) (by rfl) (by rfl) (by rfl) (by decide +kernel) (by decide) (Nat.le_of_ble_eq_true rfl) (by decide) (by decide) ?_
          intro r54 h55 q56
          obtain ⟨e57, rfl⟩ := q56
          obtain ⟨z120, h_z120⟩ : ∃ z : Int32, z = (if (0 : Int32) < renewedFrom94 then (1 : Int32) else (0 : Int32)) := ⟨_, rfl⟩
          have e57' := e57.trans (show _ = some (Value.int z120) by rw [h_z120])
          subst e57'
          show WP X n0 QL h44 1 5 123 #[.val (.int fl), .val (.long ti), .second, .val (.long tk), .second, .val (.int s11_0), .val (.int s24_0), .val (.int s37_0), .val (.int s67_0), .val ((.ref a12)), .val (.int (1 : Int32)), .unset, .unset, .unset] [.int z120]
          refine wp_run ok hK (B := [(123, .iload 8, false)]) (by decide +kernel) (pc' := 125) (L' := #[.val (.int fl), .val (.long ti), .second, .val (.long tk), .second, .val (.int s11_0), .val (.int s24_0), .val (.int s37_0), .val (.int s67_0), .val ((.ref a12)), .val (.int (1 : Int32)), .unset, .unset, .unset]) (S' := [.int s67_0, .int z120]) rfl trivial ?_
          have J133_59 : ∀ (s133_0 : Int32) (h_s133_0 : s133_0 = (if (0 : Int32) < s67_0 then (1 : Int32) else (0 : Int32))), WP X n0 QL h44 1 5 133 #[.val (.int fl), .val (.long ti), .second, .val (.long tk), .second, .val (.int s11_0), .val (.int s24_0), .val (.int s37_0), .val (.int s67_0), .val ((.ref a12)), .val (.int (1 : Int32)), .unset, .unset, .unset] [.int s133_0, .int z120] := by
            intro s133_0 h_s133_0
            refine wp_run ok hK (B := [(133, .if_icmp .ne 7, false), (136, .iconst 1, false), (137, .goto 4, false), (141, .istore 10, false), (143, .aload 9, false)]) (by decide +kernel) (pc' := 145) (L' := #[.val (.int fl), .val (.long ti), .second, .val (.long tk), .second, .val (.int s11_0), .val (.int s24_0), .val (.int s37_0), .val (.int s67_0), .val ((.ref a12)), .val (.int (1 : Int32)), .unset, .unset, .unset]) (S' := [(.ref a12)]) rfl ⟨(XT.ii_ne_f (own_law_2 fl ti tk s11_0 h_s11_0 s24_0 h_s24_0 s37_0 h_s37_0 s67_0 h_s67_0 renewedFrom78 h_renewedFrom78 count87 h_count87 renewedFrom87 h_renewedFrom87 count94 h_count94 renewedFrom94 h_renewedFrom94 z120 h_z120 s133_0 h_s133_0)), trivial⟩ ?_
            refine wp_virtual ok (wd hw 34 rfl) (wd hw 35 rfl) (wd hw 37 rfl) (wd hw 36 rfl) (wd hw 2 rfl) (wd hw 38 rfl) (by decide) (argsL := []) (rest := []) E49 (c_ext _ Z a0 hw a12 count94 renewedFrom94 h44 n0 Z50 E49 F47 F48 g18) (ps := []) (by decide +kernel) (by rfl) (by rfl) (by rfl) (by decide +kernel) (by decide) (Nat.le_of_ble_eq_true rfl) (by decide) (by decide) ?_
            intro r60 h61 q62
            obtain ⟨e63, K64, F65, F66⟩ := q62
            obtain ⟨z145, h_z145⟩ : ∃ z : Int32, z = (if (count94 - (1 : Int32)) = (0 : Int32) then (1 : Int32) else (0 : Int32)) := ⟨_, rfl⟩
            have e63' := e63.trans (show _ = some (Value.int z145) by rw [h_z145])
            subst e63'
            have E67 := E49.keep K64
            obtain ⟨count145, h_count145⟩ : ∃ z : Int32, z = (count94 - (1 : Int32)) := ⟨_, rfl⟩
            rw [← h_count145] at F65
            obtain ⟨renewedFrom145, h_renewedFrom145⟩ : ∃ z : Int32, z = (if (count94 - (1 : Int32)) < renewedFrom94 then (0 : Int32) else renewedFrom94) := ⟨_, rfl⟩
            rw [← h_renewedFrom145] at F66
            have Z68 : n0 ≤ h61.size := Nat.le_trans Z50 K64.1
            show WP X n0 QL h61 1 5 148 #[.val (.int fl), .val (.long ti), .second, .val (.long tk), .second, .val (.int s11_0), .val (.int s24_0), .val (.int s37_0), .val (.int s67_0), .val ((.ref a12)), .val (.int (1 : Int32)), .unset, .unset, .unset] [.int z145]
            refine wp_run ok hK (B := [(148, .istore 11, false), (150, .iload 10, false), (152, .ifCond .eq 36, false), (155, .iload 11, false), (157, .ifCond .ne 31, false), (160, .aload 9, false)]) (by decide +kernel) (pc' := 162) (L' := #[.val (.int fl), .val (.long ti), .second, .val (.long tk), .second, .val (.int s11_0), .val (.int s24_0), .val (.int s37_0), .val (.int s67_0), .val ((.ref a12)), .val (.int (1 : Int32)), .val (.int z145), .unset, .unset]) (S' := [(.ref a12)]) rfl ⟨(XT.i0_eq_f (by decide)), (XT.i0_ne_f (own_law_3 fl ti tk s11_0 h_s11_0 s24_0 h_s24_0 s37_0 h_s37_0 s67_0 h_s67_0 renewedFrom78 h_renewedFrom78 count87 h_count87 renewedFrom87 h_renewedFrom87 count94 h_count94 renewedFrom94 h_renewedFrom94 z120 h_z120 s133_0 h_s133_0 z145 h_z145 count145 h_count145 renewedFrom145 h_renewedFrom145)), trivial⟩ ?_
            refine wp_virtual ok (wd hw 29 rfl) (wd hw 30 rfl) (wd hw 32 rfl) (wd hw 31 rfl) (wd hw 2 rfl) (wd hw 33 rfl) (by decide) (argsL := []) (rest := []) E67 (c_ren _ Z a0 hw a12 renewedFrom145 h61 n0 Z68 E67 F66 g18) (ps := []) (by decide +kernel) (by rfl) (by rfl) (by rfl) (by decide +kernel) (by decide) (Nat.le_of_ble_eq_true rfl) (by decide) (by decide) ?_
            intro r69 h70 q71
            obtain ⟨e72, rfl⟩ := q71
            obtain ⟨z162, h_z162⟩ : ∃ z : Int32, z = (if (0 : Int32) < renewedFrom145 then (1 : Int32) else (0 : Int32)) := ⟨_, rfl⟩
            have e72' := e72.trans (show _ = some (Value.int z162) by rw [h_z162])
            subst e72'
            show WP X n0 QL h61 1 5 165 #[.val (.int fl), .val (.long ti), .second, .val (.long tk), .second, .val (.int s11_0), .val (.int s24_0), .val (.int s37_0), .val (.int s67_0), .val ((.ref a12)), .val (.int (1 : Int32)), .val (.int z145), .unset, .unset] [.int z162]
            refine wp_run ok hK (B := [(165, .iload 8, false)]) (by decide +kernel) (pc' := 167) (L' := #[.val (.int fl), .val (.long ti), .second, .val (.long tk), .second, .val (.int s11_0), .val (.int s24_0), .val (.int s37_0), .val (.int s67_0), .val ((.ref a12)), .val (.int (1 : Int32)), .val (.int z145), .unset, .unset]) (S' := [.int s67_0, .int z162]) rfl trivial ?_
            have J181_75 : ∀ (s181_0 : Int32) (h_s181_0 : s181_0 = (if (0 : Int32) < s67_0 then (if (2 : Int32) < s67_0 then (0 : Int32) else (1 : Int32)) else (0 : Int32))), WP X n0 QL h61 1 5 181 #[.val (.int fl), .val (.long ti), .second, .val (.long tk), .second, .val (.int s11_0), .val (.int s24_0), .val (.int s37_0), .val (.int s67_0), .val ((.ref a12)), .val (.int (1 : Int32)), .val (.int z145), .unset, .unset] [.int s181_0, .int z162] := by
              intro s181_0 h_s181_0
              refine wp_run ok hK (B := [(181, .if_icmp .ne 7, false), (184, .iconst 1, false), (185, .goto 4, false), (189, .istore 10, false), (191, .aload 9, false)]) (by decide +kernel) (pc' := 193) (L' := #[.val (.int fl), .val (.long ti), .second, .val (.long tk), .second, .val (.int s11_0), .val (.int s24_0), .val (.int s37_0), .val (.int s67_0), .val ((.ref a12)), .val (.int (1 : Int32)), .val (.int z145), .unset, .unset]) (S' := [(.ref a12)]) rfl ⟨(XT.ii_ne_f (own_law_4 fl ti tk s11_0 h_s11_0 s24_0 h_s24_0 s37_0 h_s37_0 s67_0 h_s67_0 renewedFrom78 h_renewedFrom78 count87 h_count87 renewedFrom87 h_renewedFrom87 count94 h_count94 renewedFrom94 h_renewedFrom94 z120 h_z120 s133_0 h_s133_0 z145 h_z145 count145 h_count145 renewedFrom145 h_renewedFrom145 z162 h_z162 s181_0 h_s181_0)), trivial⟩ ?_
              refine wp_virtual ok (wd hw 34 rfl) (wd hw 35 rfl) (wd hw 37 rfl) (wd hw 36 rfl) (wd hw 2 rfl) (wd hw 38 rfl) (by decide) (argsL := []) (rest := []) E67 (c_ext _ Z a0 hw a12 count145 renewedFrom145 h61 n0 Z68 E67 F65 F66 g18) (ps := []) (by decide +kernel) (by rfl) (by rfl) (by rfl) (by decide +kernel) (by decide) (Nat.le_of_ble_eq_true rfl) (by decide) (by decide) ?_
              intro r76 h77 q78
              obtain ⟨e79, K80, F81, F82⟩ := q78
              obtain ⟨z193, h_z193⟩ : ∃ z : Int32, z = (if (count145 - (1 : Int32)) = (0 : Int32) then (1 : Int32) else (0 : Int32)) := ⟨_, rfl⟩
              have e79' := e79.trans (show _ = some (Value.int z193) by rw [h_z193])
              subst e79'
              have E83 := E67.keep K80
              obtain ⟨count193, h_count193⟩ : ∃ z : Int32, z = (count145 - (1 : Int32)) := ⟨_, rfl⟩
              rw [← h_count193] at F81
              obtain ⟨renewedFrom193, h_renewedFrom193⟩ : ∃ z : Int32, z = (if (count145 - (1 : Int32)) < renewedFrom145 then (0 : Int32) else renewedFrom145) := ⟨_, rfl⟩
              rw [← h_renewedFrom193] at F82
              have Z84 : n0 ≤ h77.size := Nat.le_trans Z68 K80.1
              show WP X n0 QL h77 1 5 196 #[.val (.int fl), .val (.long ti), .second, .val (.long tk), .second, .val (.int s11_0), .val (.int s24_0), .val (.int s37_0), .val (.int s67_0), .val ((.ref a12)), .val (.int (1 : Int32)), .val (.int z145), .unset, .unset] [.int z193]
              refine wp_run ok hK (B := [(196, .istore 12, false), (198, .iload 10, false), (200, .ifCond .eq 31, false), (203, .iload 12, false), (205, .ifCond .ne 26, false), (208, .aload 9, false)]) (by decide +kernel) (pc' := 210) (L' := #[.val (.int fl), .val (.long ti), .second, .val (.long tk), .second, .val (.int s11_0), .val (.int s24_0), .val (.int s37_0), .val (.int s67_0), .val ((.ref a12)), .val (.int (1 : Int32)), .val (.int z145), .val (.int z193), .unset]) (S' := [(.ref a12)]) rfl ⟨(XT.i0_eq_f (by decide)), (XT.i0_ne_f (own_law_5 fl ti tk s11_0 h_s11_0 s24_0 h_s24_0 s37_0 h_s37_0 s67_0 h_s67_0 renewedFrom78 h_renewedFrom78 count87 h_count87 renewedFrom87 h_renewedFrom87 count94 h_count94 renewedFrom94 h_renewedFrom94 z120 h_z120 s133_0 h_s133_0 z145 h_z145 count145 h_count145 renewedFrom145 h_renewedFrom145 z162 h_z162 s181_0 h_s181_0 z193 h_z193 count193 h_count193 renewedFrom193 h_renewedFrom193)), trivial⟩ ?_
              refine wp_virtual ok (wd hw 29 rfl) (wd hw 30 rfl) (wd hw 32 rfl) (wd hw 31 rfl) (wd hw 2 rfl) (wd hw 33 rfl) (by decide) (argsL := []) (rest := []) E83 (c_ren _ Z a0 hw a12 renewedFrom193 h77 n0 Z84 E83 F82 g18) (ps := []) (by decide +kernel) (by rfl) (by rfl) (by rfl) (by decide +kernel) (by decide) (Nat.le_of_ble_eq_true rfl) (by decide) (by decide) ?_
              intro r85 h86 q87
              obtain ⟨e88, rfl⟩ := q87
              obtain ⟨z210, h_z210⟩ : ∃ z : Int32, z = (if (0 : Int32) < renewedFrom193 then (1 : Int32) else (0 : Int32)) := ⟨_, rfl⟩
              have e88' := e88.trans (show _ = some (Value.int z210) by rw [h_z210])
              subst e88'
              show WP X n0 QL h77 1 5 213 #[.val (.int fl), .val (.long ti), .second, .val (.long tk), .second, .val (.int s11_0), .val (.int s24_0), .val (.int s37_0), .val (.int s67_0), .val ((.ref a12)), .val (.int (1 : Int32)), .val (.int z145), .val (.int z193), .unset] [.int z210]
              refine wp_run ok hK (B := [(213, .iload 8, false), (215, .iconst 1, false)]) (by decide +kernel) (pc' := 216) (L' := #[.val (.int fl), .val (.long ti), .second, .val (.long tk), .second, .val (.int s11_0), .val (.int s24_0), .val (.int s37_0), .val (.int s67_0), .val ((.ref a12)), .val (.int (1 : Int32)), .val (.int z145), .val (.int z193), .unset]) (S' := [.int (1 : Int32), .int s67_0, .int z210]) rfl trivial ?_
              have J224_90 : ∀ (s224_0 : Int32) (h_s224_0 : s224_0 = (if s67_0 = (1 : Int32) then (1 : Int32) else (0 : Int32))), WP X n0 QL h77 1 5 224 #[.val (.int fl), .val (.long ti), .second, .val (.long tk), .second, .val (.int s11_0), .val (.int s24_0), .val (.int s37_0), .val (.int s67_0), .val ((.ref a12)), .val (.int (1 : Int32)), .val (.int z145), .val (.int z193), .unset] [.int s224_0, .int z210] := by
                intro s224_0 h_s224_0
                refine wp_run ok hK (B := [(224, .if_icmp .ne 7, false), (227, .iconst 1, false), (228, .goto 4, false), (232, .istore 10, false), (234, .aload 9, false)]) (by decide +kernel) (pc' := 236) (L' := #[.val (.int fl), .val (.long ti), .second, .val (.long tk), .second, .val (.int s11_0), .val (.int s24_0), .val (.int s37_0), .val (.int s67_0), .val ((.ref a12)), .val (.int (1 : Int32)), .val (.int z145), .val (.int z193), .unset]) (S' := [(.ref a12)]) rfl ⟨(XT.ii_ne_f (own_law_6 fl ti tk s11_0 h_s11_0 s24_0 h_s24_0 s37_0 h_s37_0 s67_0 h_s67_0 renewedFrom78 h_renewedFrom78 count87 h_count87 renewedFrom87 h_renewedFrom87 count94 h_count94 renewedFrom94 h_renewedFrom94 z120 h_z120 s133_0 h_s133_0 z145 h_z145 count145 h_count145 renewedFrom145 h_renewedFrom145 z162 h_z162 s181_0 h_s181_0 z193 h_z193 count193 h_count193 renewedFrom193 h_renewedFrom193 z210 h_z210 s224_0 h_s224_0)), trivial⟩ ?_
                refine wp_virtual ok (wd hw 34 rfl) (wd hw 35 rfl) (wd hw 37 rfl) (wd hw 36 rfl) (wd hw 2 rfl) (wd hw 38 rfl) (by decide) (argsL := []) (rest := []) E83 (c_ext _ Z a0 hw a12 count193 renewedFrom193 h77 n0 Z84 E83 F81 F82 g18) (ps := []) (by decide +kernel) (by rfl) (by rfl) (by rfl) (by decide +kernel) (by decide) (Nat.le_of_ble_eq_true rfl) (by decide) (by decide) ?_
                intro r91 h92 q93
                obtain ⟨e94, K95, F96, F97⟩ := q93
                obtain ⟨z236, h_z236⟩ : ∃ z : Int32, z = (if (count193 - (1 : Int32)) = (0 : Int32) then (1 : Int32) else (0 : Int32)) := ⟨_, rfl⟩
                have e94' := e94.trans (show _ = some (Value.int z236) by rw [h_z236])
                subst e94'
                have E98 := E83.keep K95
                obtain ⟨count236, h_count236⟩ : ∃ z : Int32, z = (count193 - (1 : Int32)) := ⟨_, rfl⟩
                rw [← h_count236] at F96
                obtain ⟨renewedFrom236, h_renewedFrom236⟩ : ∃ z : Int32, z = (if (count193 - (1 : Int32)) < renewedFrom193 then (0 : Int32) else renewedFrom193) := ⟨_, rfl⟩
                rw [← h_renewedFrom236] at F97
                have Z99 : n0 ≤ h92.size := Nat.le_trans Z84 K95.1
                show WP X n0 QL h92 1 5 239 #[.val (.int fl), .val (.long ti), .second, .val (.long tk), .second, .val (.int s11_0), .val (.int s24_0), .val (.int s37_0), .val (.int s67_0), .val ((.ref a12)), .val (.int (1 : Int32)), .val (.int z145), .val (.int z193), .unset] [.int z236]
                refine wp_run ok hK (B := [(239, .istore 13, false), (241, .iload 10, false), (243, .ifCond .eq 12, false), (246, .iload 13, false), (248, .ifCond .eq 7, false), (251, .iconst 1, false), (252, .goto 4, false), (256, .istore 10, false), (258, .iload 10, false)]) (by decide +kernel) (pc' := 260) (L' := #[.val (.int fl), .val (.long ti), .second, .val (.long tk), .second, .val (.int s11_0), .val (.int s24_0), .val (.int s37_0), .val (.int s67_0), .val ((.ref a12)), .val (.int (1 : Int32)), .val (.int z145), .val (.int z193), .val (.int z236)]) (S' := [.int (1 : Int32)]) rfl ⟨(XT.i0_eq_f (by decide)), (XT.i0_eq_f (own_law_7 fl ti tk s11_0 h_s11_0 s24_0 h_s24_0 s37_0 h_s37_0 s67_0 h_s67_0 renewedFrom78 h_renewedFrom78 count87 h_count87 renewedFrom87 h_renewedFrom87 count94 h_count94 renewedFrom94 h_renewedFrom94 z120 h_z120 s133_0 h_s133_0 z145 h_z145 count145 h_count145 renewedFrom145 h_renewedFrom145 z162 h_z162 s181_0 h_s181_0 z193 h_z193 count193 h_count193 renewedFrom193 h_renewedFrom193 z210 h_z210 s224_0 h_s224_0 z236 h_z236 count236 h_count236 renewedFrom236 h_renewedFrom236)), trivial⟩ ?_
                refine wp_retZ ok (t := .boolean) (by simp) (by decide +kernel) (by decide) (by decide) ?_
                exact congrArg (fun z => some (Value.int z)) (own_law_8 fl ti tk s11_0 h_s11_0 s24_0 h_s24_0 s37_0 h_s37_0 s67_0 h_s67_0 renewedFrom78 h_renewedFrom78 count87 h_count87 renewedFrom87 h_renewedFrom87 count94 h_count94 renewedFrom94 h_renewedFrom94 z120 h_z120 s133_0 h_s133_0 z145 h_z145 count145 h_count145 renewedFrom145 h_renewedFrom145 z162 h_z162 s181_0 h_s181_0 z193 h_z193 count193 h_count193 renewedFrom193 h_renewedFrom193 z210 h_z210 s224_0 h_s224_0 z236 h_z236 count236 h_count236 renewedFrom236 h_renewedFrom236)
              by_cases c89 : s67_0 = (1 : Int32)
              · refine wp_run ok hK (B := [(216, .if_icmp .ne 7, false), (219, .iconst 1, false), (220, .goto 4, false)]) (by decide +kernel) (pc' := 224) (L' := #[.val (.int fl), .val (.long ti), .second, .val (.long tk), .second, .val (.int s11_0), .val (.int s24_0), .val (.int s37_0), .val (.int s67_0), .val ((.ref a12)), .val (.int (1 : Int32)), .val (.int z145), .val (.int z193), .unset]) (S' := [.int (1 : Int32), .int z210]) rfl ⟨(XT.ii_ne_f c89), trivial⟩ ?_
                exact J224_90 _ (by rw [if_pos c89])
              · refine wp_run ok hK (B := [(216, .if_icmp .ne 7, true), (223, .iconst 0, false)]) (by decide +kernel) (pc' := 224) (L' := #[.val (.int fl), .val (.long ti), .second, .val (.long tk), .second, .val (.int s11_0), .val (.int s24_0), .val (.int s37_0), .val (.int s67_0), .val ((.ref a12)), .val (.int (1 : Int32)), .val (.int z145), .val (.int z193), .unset]) (S' := [.int (0 : Int32), .int z210]) rfl ⟨(XT.ii_ne_t c89), trivial⟩ ?_
                exact J224_90 _ (by rw [if_neg c89])
            by_cases c73 : (0 : Int32) < s67_0
            · by_cases c74 : (2 : Int32) < s67_0
              · refine wp_run ok hK (B := [(167, .ifCond .le 13, false), (170, .iload 8, false), (172, .iconst 2, false), (173, .if_icmp .gt 7, true), (180, .iconst 0, false)]) (by decide +kernel) (pc' := 181) (L' := #[.val (.int fl), .val (.long ti), .second, .val (.long tk), .second, .val (.int s11_0), .val (.int s24_0), .val (.int s37_0), .val (.int s67_0), .val ((.ref a12)), .val (.int (1 : Int32)), .val (.int z145), .unset, .unset]) (S' := [.int (0 : Int32), .int z162]) rfl ⟨(XT.i0_le_f c73), (XT.ii_gt_t c74), trivial⟩ ?_
                exact J181_75 _ (by rw [if_pos c73, if_pos c74])
              · refine wp_run ok hK (B := [(167, .ifCond .le 13, false), (170, .iload 8, false), (172, .iconst 2, false), (173, .if_icmp .gt 7, false), (176, .iconst 1, false), (177, .goto 4, false)]) (by decide +kernel) (pc' := 181) (L' := #[.val (.int fl), .val (.long ti), .second, .val (.long tk), .second, .val (.int s11_0), .val (.int s24_0), .val (.int s37_0), .val (.int s67_0), .val ((.ref a12)), .val (.int (1 : Int32)), .val (.int z145), .unset, .unset]) (S' := [.int (1 : Int32), .int z162]) rfl ⟨(XT.i0_le_f c73), (XT.ii_gt_f c74), trivial⟩ ?_
                exact J181_75 _ (by rw [if_pos c73, if_neg c74])
            · refine wp_run ok hK (B := [(167, .ifCond .le 13, true), (180, .iconst 0, false)]) (by decide +kernel) (pc' := 181) (L' := #[.val (.int fl), .val (.long ti), .second, .val (.long tk), .second, .val (.int s11_0), .val (.int s24_0), .val (.int s37_0), .val (.int s67_0), .val ((.ref a12)), .val (.int (1 : Int32)), .val (.int z145), .unset, .unset]) (S' := [.int (0 : Int32), .int z162]) rfl ⟨(XT.i0_le_t c73), trivial⟩ ?_
              exact J181_75 _ (by rw [if_neg c73])
          by_cases c58 : (0 : Int32) < s67_0
          · refine wp_run ok hK (B := [(125, .ifCond .le 7, false), (128, .iconst 1, false), (129, .goto 4, false)]) (by decide +kernel) (pc' := 133) (L' := #[.val (.int fl), .val (.long ti), .second, .val (.long tk), .second, .val (.int s11_0), .val (.int s24_0), .val (.int s37_0), .val (.int s67_0), .val ((.ref a12)), .val (.int (1 : Int32)), .unset, .unset, .unset]) (S' := [.int (1 : Int32), .int z120]) rfl ⟨(XT.i0_le_f c58), trivial⟩ ?_
            exact J133_59 _ (by rw [if_pos c58])
          · refine wp_run ok hK (B := [(125, .ifCond .le 7, true), (132, .iconst 0, false)]) (by decide +kernel) (pc' := 133) (L' := #[.val (.int fl), .val (.long ti), .second, .val (.long tk), .second, .val (.int s11_0), .val (.int s24_0), .val (.int s37_0), .val (.int s67_0), .val ((.ref a12)), .val (.int (1 : Int32)), .unset, .unset, .unset]) (S' := [.int (0 : Int32), .int z120]) rfl ⟨(XT.i0_le_t c58), trivial⟩ ?_
            exact J133_59 _ (by rw [if_neg c58])
        by_cases c7 : s11_0 = (0 : Int32)
        · by_cases c8 : s24_0 = (0 : Int32)
          · by_cases c9 : s37_0 = (0 : Int32)
            · refine wp_run ok hK (B := [(41, .ifCond .eq 7, true), (48, .iload 6, false), (50, .ifCond .eq 7, true), (57, .iload 7, false), (59, .ifCond .eq 7, true), (66, .iconst 0, false)]) (by decide +kernel) (pc' := 67) (L' := #[.val (.int fl), .val (.long ti), .second, .val (.long tk), .second, .val (.int s11_0), .val (.int s24_0), .val (.int s37_0), .unset, .unset, .unset, .unset, .unset, .unset]) (S' := [.int (0 : Int32)]) rfl ⟨(XT.i0_eq_t c7), (XT.i0_eq_t c8), (XT.i0_eq_t c9), trivial⟩ ?_
              exact J67_10 _ (by rw [if_pos c7, if_pos c8, if_pos c9])
            · refine wp_run ok hK (B := [(41, .ifCond .eq 7, true), (48, .iload 6, false), (50, .ifCond .eq 7, true), (57, .iload 7, false), (59, .ifCond .eq 7, false), (62, .iconst 3, false), (63, .goto 4, false)]) (by decide +kernel) (pc' := 67) (L' := #[.val (.int fl), .val (.long ti), .second, .val (.long tk), .second, .val (.int s11_0), .val (.int s24_0), .val (.int s37_0), .unset, .unset, .unset, .unset, .unset, .unset]) (S' := [.int (3 : Int32)]) rfl ⟨(XT.i0_eq_t c7), (XT.i0_eq_t c8), (XT.i0_eq_f c9), trivial⟩ ?_
              exact J67_10 _ (by rw [if_pos c7, if_pos c8, if_neg c9])
          · refine wp_run ok hK (B := [(41, .ifCond .eq 7, true), (48, .iload 6, false), (50, .ifCond .eq 7, false), (53, .iconst 2, false), (54, .goto 13, false)]) (by decide +kernel) (pc' := 67) (L' := #[.val (.int fl), .val (.long ti), .second, .val (.long tk), .second, .val (.int s11_0), .val (.int s24_0), .val (.int s37_0), .unset, .unset, .unset, .unset, .unset, .unset]) (S' := [.int (2 : Int32)]) rfl ⟨(XT.i0_eq_t c7), (XT.i0_eq_f c8), trivial⟩ ?_
            exact J67_10 _ (by rw [if_pos c7, if_neg c8])
        · refine wp_run ok hK (B := [(41, .ifCond .eq 7, false), (44, .iconst 1, false), (45, .goto 22, false)]) (by decide +kernel) (pc' := 67) (L' := #[.val (.int fl), .val (.long ti), .second, .val (.long tk), .second, .val (.int s11_0), .val (.int s24_0), .val (.int s37_0), .unset, .unset, .unset, .unset, .unset, .unset]) (S' := [.int (1 : Int32)]) rfl ⟨(XT.i0_eq_f c7), trivial⟩ ?_
          exact J67_10 _ (by rw [if_neg c7])
      by_cases c5 : (fl &&& (4 : Int32)) = (0 : Int32)
      · refine wp_run ok hK (B := [(29, .ifCond .eq 7, true), (36, .iconst 0, false)]) (by decide +kernel) (pc' := 37) (L' := #[.val (.int fl), .val (.long ti), .second, .val (.long tk), .second, .val (.int s11_0), .val (.int s24_0), .unset, .unset, .unset, .unset, .unset, .unset, .unset]) (S' := [.int (0 : Int32)]) rfl ⟨(XT.i0_eq_t c5), trivial⟩ ?_
        exact J37_6 _ (by rw [if_pos c5])
      · refine wp_run ok hK (B := [(29, .ifCond .eq 7, false), (32, .iconst 1, false), (33, .goto 4, false)]) (by decide +kernel) (pc' := 37) (L' := #[.val (.int fl), .val (.long ti), .second, .val (.long tk), .second, .val (.int s11_0), .val (.int s24_0), .unset, .unset, .unset, .unset, .unset, .unset, .unset]) (S' := [.int (1 : Int32)]) rfl ⟨(XT.i0_eq_f c5), trivial⟩ ?_
        exact J37_6 _ (by rw [if_neg c5])
    by_cases c3 : (fl &&& (2 : Int32)) = (0 : Int32)
    · refine wp_run ok hK (B := [(16, .ifCond .eq 7, true), (23, .iconst 0, false)]) (by decide +kernel) (pc' := 24) (L' := #[.val (.int fl), .val (.long ti), .second, .val (.long tk), .second, .val (.int s11_0), .unset, .unset, .unset, .unset, .unset, .unset, .unset, .unset]) (S' := [.int (0 : Int32)]) rfl ⟨(XT.i0_eq_t c3), trivial⟩ ?_
      exact J24_4 _ (by rw [if_pos c3])
    · refine wp_run ok hK (B := [(16, .ifCond .eq 7, false), (19, .iconst 1, false), (20, .goto 4, false)]) (by decide +kernel) (pc' := 24) (L' := #[.val (.int fl), .val (.long ti), .second, .val (.long tk), .second, .val (.int s11_0), .unset, .unset, .unset, .unset, .unset, .unset, .unset, .unset]) (S' := [.int (1 : Int32)]) rfl ⟨(XT.i0_eq_f c3), trivial⟩ ?_
      exact J24_4 _ (by rw [if_neg c3])
  by_cases c1 : (fl &&& (1 : Int32)) = (0 : Int32)
  · refine wp_run ok hK (B := [(3, .ifCond .eq 7, true), (10, .iconst 0, false)]) (by decide +kernel) (pc' := 11) (L' := #[.val (.int fl), .val (.long ti), .second, .val (.long tk), .second, .unset, .unset, .unset, .unset, .unset, .unset, .unset, .unset, .unset]) (S' := [.int (0 : Int32)]) rfl ⟨(XT.i0_eq_t c1), trivial⟩ ?_
    exact J11_2 _ (by rw [if_pos c1])
  · refine wp_run ok hK (B := [(3, .ifCond .eq 7, false), (6, .iconst 1, false), (7, .goto 4, false)]) (by decide +kernel) (pc' := 11) (L' := #[.val (.int fl), .val (.long ti), .second, .val (.long tk), .second, .unset, .unset, .unset, .unset, .unset, .unset, .unset, .unset, .unset]) (S' := [.int (1 : Int32)]) rfl ⟨(XT.i0_eq_f c1), trivial⟩ ?_
    exact J11_2 _ (by rw [if_neg c1])
set_option maxRecDepth 65536 in
set_option maxHeartbeats 40000000 in
theorem comes_1 {Post : Tables → Env → Array Value → State → Outcome → State → Prop} (hpost : ∀ tb e args s v u, (limb_1_1.after args s (.returned v) u = true ∧ limb_1_2.after args s (.returned v) u = true ∧ True) → FrameEnd s (.returned v) u (Jvm.fieldLocs frame_1_writes args s ++ Jvm.arrayLocs frame_1_arrays args s ++ Jvm.staticLocs frame_1_statics s) 16 128 → Post tb e args s (.returned v) u) :
    ArmFor flags0 classFile x code maxLocals ret World_1 tables_1 room_1 Calls_1 rest_1 Pre_1 Post := by
  intro l hfl _ _ p e ha hc hk s m args below hf hA hF happ hP
  obtain ⟨hcalls, hrest, hpre⟩ := hP
  obtain ⟨-, -, -, hnamed, -, -, -, hat⟩ := (Spec.applies_iff hf).mp happ
  obtain ⟨hg, hn⟩ := and_e (Cond.before_iff.mp (show (Jvm.Cond.and given_1 narrow_1).before args s = true from hpre))
  obtain ⟨h1, g0⟩ := and_e hg
  obtain ⟨f0, g1⟩ := and_e g0
  obtain ⟨f1, g2⟩ := and_e g1
  obtain ⟨w0, w1, w2, rfl⟩ : ∃ w0 w1 w2 : Value, args = #[w0, w1, w2] := by
    have hs : args.size = 3 := by simpa [Cond.value, given_1] using h1
    obtain ⟨L⟩ := args
    match L, hs with
    | [w0, w1, w2], _ => exact ⟨w0, w1, w2, rfl⟩
  have hw := fun d (hd : d ∈ tables_1) => atoms_spec (ws := Jvm.Cond.code x code maxLocals ret :: tables_1) hat d (List.mem_cons_of_mem _ hd)
  obtain ⟨i0, e0⟩ := is_v f0
  obtain rfl : w0 = (.int i0) := Option.some.inj e0
  obtain ⟨i1, e1⟩ := isL_v f1
  obtain rfl : w1 = (.long i1) := Option.some.inj e1
  obtain ⟨i2, e2⟩ := isL_v g2
  obtain rfl : w2 = (.long i2) := Option.some.inj e2
  obtain ⟨n, o, h1, h2, h3, _, L, rfl, ⟨rfl, N⟩, hq⟩ := c_law l s _ hw i0 i1 i2 s.heap s.heap.size (Nat.le_refl _) p e ha hc hk s m _ below hf ((Spec.applies_iff_loose hf).mp happ).1 ⟨rfl, State.Warmed39.refl s, rfl⟩ trivial
  refine ⟨n, _, h1, h2, h3, hpost _ _ _ _ _ _ ⟨Cond.after_iff.mpr rfl, Cond.after_iff.mpr (eq_i res_at (Term.int_eval (1)) rfl), trivial⟩ ⟨hq.1, hq.2.1, (hq.2.2.sift fun y hy => Or.inr (N y hy)).mono (by decide) (by decide)⟩⟩
theorem main_1_1 : Claimed_1_1 := comes_1 fun _ _ _ _ _ _ h hF => ⟨h.1, hF⟩
theorem main_1_2 : Claimed_1_2 := comes_1 fun _ _ _ _ _ _ h hF => ⟨h.2.1, hF⟩
end Jvm.Pilot.@@N@@
namespace Jvm.Pilot.@@N@@
open Jvm Jvm.ClassFile Sem Op Lib Jvm.Free Jvm.Stand Jvm.Pilot.@@N@@.Jvm.D
/-! MADE BY PROGRAM (witnessworld.py) out of the Statement's table words and the real class files: 9 classes; the members and pool entries that the words name. The judged class is class 1, her method 1. -/
namespace start1
open Jvm.ClassFile
def u (s : String) : CpInfo := .utf8 (stringToUtf16 s)
/-- a pool by its gaps: so many unusable entries, then the entry; so many at the end -/
def gap : Nat → List CpInfo → List CpInfo
  | 0, r => r
  | n + 1, r => .unusable :: gap n r
def poolList (es : List (Nat × CpInfo)) (last : Nat) : List CpInfo := es.foldr (fun e r => gap e.1 (e.2 :: r)) (gap last [])
def pool (es : List (Nat × CpInfo)) (last : Nat) : Array CpInfo := ⟨poolList es last⟩
def fileOf (pool : Array CpInfo) (this : Nat) (attrs : Array Attribute := #[]) (ms : Array MethodInfo := #[]) (fl : Nat := 33) (sup : Nat := 0) (ifs : Array Nat := #[]) (fds : Array FieldInfo := #[]) : ClassFile where
  minorVersion := 0
  majorVersion := 65
  constantPool := pool
  accessFlags := fl
  thisClass := this
  superClass := sup
  interfaces := ifs
  fields := fds
  methods := ms
  attributes := attrs
def plain (name : String) (sup : Option ClassId) : Class where
  name := name
  kind := .ordinary
  loader := none
  accessFlags := 33
  super := sup
  interfaces := #[]
  cf := none
  fields := #[]
  methods := #[]
  instanceTypes := #[]
  staticTypes := #[]
  resolved := #[]
  callSites := []
  init := .initialized
  statics := none
  mirror := none

def pool0 : Array CpInfo := pool [(5, u "<init>"), (0, u "()V"), (1, .class_ 10), (1, u "java/lang/Object")] 113

def k0c0 : Code := { maxStack := 0, maxLocals := 1, code := object_method_1_code, exceptionTable := #[], attributes := #[] }
def k0m0 : Method := { name := "<init>", desc := "()V", sig := { parameters := [], returnType := none }, accessFlags := 1, code := some k0c0 }
/-- java/lang/Object -/
def k0 : Class := { plain "java/lang/Object" none with
  accessFlags := 33
  interfaces := #[]
  cf := some (fileOf pool0 8 #[] #[{ accessFlags := 1, nameIndex := 5, descriptorIndex := 6, attributes := #[] }] 33 0 #[] #[])
  fields := #[]
  methods := #[k0m0]
  instanceTypes := #[]
  staticTypes := #[]
  resolved := Array.replicate 124 none
  statics := none }

def pool1 : Array CpInfo := pool [(2, .class_ 4), (1, u "java/lang/Object"), (0, u "<init>"), (0, u "()V"), (0, .class_ 8), (0, u "com/example/exclude/exclude/lock/Hold"), (0, .methodref 7 10), (0, .nameAndType 5 11), (0, u "(JLcom/example/exclude/exclude/lease/Lease;JZ)V"), (0, .methodref 7 13), (0, .nameAndType 14 15), (0, u "enterAgain"), (0, u "(Z)V"), (0, .methodref 7 17), (0, .nameAndType 18 19), (0, u "count"), (0, u "()I"), (0, .methodref 7 21), (0, .nameAndType 22 23), (0, u "isRenewed"), (0, u "()Z"), (0, .methodref 7 25), (0, .nameAndType 26 23), (0, u "exit"), (0, .class_ 28), (0, u "com/example/exclude/exclude/lock/HoldEnterAgainPinLaw"), (2, u "law"), (0, u "(IJJ)Z")] 3

def k1m0 : Method := { name := "<init>", desc := "()V", sig := { parameters := [], returnType := none }, accessFlags := 1, code := none }
def k1c1 : Code := { maxStack := 8, maxLocals := 14, code := code, exceptionTable := #[], attributes := #[] }
def k1m1 : Method := { name := "law", desc := "(IJJ)Z", sig := { parameters := [.int, .long, .long], returnType := some .boolean }, accessFlags := 9, code := some k1c1 }
/-- com/example/exclude/exclude/lock/HoldEnterAgainPinLaw -/
def k1 : Class := { plain "com/example/exclude/exclude/lock/HoldEnterAgainPinLaw" (some 0) with
  accessFlags := 49
  interfaces := #[]
  cf := some (fileOf pool1 27 #[] #[{ accessFlags := 1, nameIndex := 5, descriptorIndex := 6, attributes := #[] }, { accessFlags := 9, nameIndex := 31, descriptorIndex := 32, attributes := #[] }] 49 2 #[] #[])
  fields := #[]
  methods := #[k1m0, k1m1]
  instanceTypes := #[]
  staticTypes := #[]
  resolved := Array.replicate 36 none
  statics := none }

def pool2 : Array CpInfo := pool [(1, .methodref 2 3), (0, .class_ 4), (0, .nameAndType 5 6), (0, u "java/lang/Object"), (0, u "<init>"), (0, u "()V"), (0, .fieldref 8 9), (0, .class_ 10), (0, .nameAndType 11 12), (0, u "com/example/exclude/exclude/lock/Hold"), (0, u "threadId"), (0, u "J"), (0, .fieldref 8 14), (0, .nameAndType 15 16), (0, u "lease"), (0, u "Lcom/example/exclude/exclude/lease/Lease;"), (0, .fieldref 8 18), (0, .nameAndType 19 12), (0, u "fencingToken"), (0, .fieldref 8 21), (0, .nameAndType 22 23), (0, u "count"), (0, u "I"), (0, .fieldref 8 25), (0, .nameAndType 26 23), (0, u "renewedFrom"), (6, u "(JLcom/example/exclude/exclude/lease/Lease;JZ)V"), (6, u "isRenewed"), (0, u "()Z"), (0, u "()I"), (0, u "enterAgain"), (0, u "(Z)V"), (0, u "exit")] 2

def k2c0 : Code := { maxStack := 3, maxLocals := 7, code := prog_3_method_1_code, exceptionTable := #[], attributes := #[] }
def k2m0 : Method := { name := "<init>", desc := "(JLcom/example/exclude/exclude/lease/Lease;JZ)V", sig := { parameters := [.long, (.object "com/example/exclude/exclude/lease/Lease"), .long, .boolean], returnType := none }, accessFlags := 0, code := some k2c0 }
def k2c1 : Code := { maxStack := 1, maxLocals := 1, code := prog_3_method_6_code, exceptionTable := #[], attributes := #[] }
def k2m1 : Method := { name := "isRenewed", desc := "()Z", sig := { parameters := [], returnType := some .boolean }, accessFlags := 0, code := some k2c1 }
def k2c2 : Code := { maxStack := 1, maxLocals := 1, code := prog_3_method_7_code, exceptionTable := #[], attributes := #[] }
def k2m2 : Method := { name := "count", desc := "()I", sig := { parameters := [], returnType := some .int }, accessFlags := 0, code := some k2c2 }
def k2c3 : Code := { maxStack := 3, maxLocals := 2, code := prog_3_method_8_code, exceptionTable := #[], attributes := #[] }
def k2m3 : Method := { name := "enterAgain", desc := "(Z)V", sig := { parameters := [.boolean], returnType := none }, accessFlags := 0, code := some k2c3 }
def k2c4 : Code := { maxStack := 3, maxLocals := 1, code := prog_3_method_9_code, exceptionTable := #[], attributes := #[] }
def k2m4 : Method := { name := "exit", desc := "()Z", sig := { parameters := [], returnType := some .boolean }, accessFlags := 0, code := some k2c4 }
/-- com/example/exclude/exclude/lock/Hold -/
def k2 : Class := { plain "com/example/exclude/exclude/lock/Hold" (some 0) with
  accessFlags := 32
  interfaces := #[]
  cf := some (fileOf pool2 8 #[] #[{ accessFlags := 0, nameIndex := 5, descriptorIndex := 33, attributes := #[] }, { accessFlags := 0, nameIndex := 40, descriptorIndex := 41, attributes := #[] }, { accessFlags := 0, nameIndex := 22, descriptorIndex := 42, attributes := #[] }, { accessFlags := 0, nameIndex := 43, descriptorIndex := 44, attributes := #[] }, { accessFlags := 0, nameIndex := 45, descriptorIndex := 41, attributes := #[] }] 32 2 #[] #[{ accessFlags := 18, nameIndex := 11, descriptorIndex := 12, attributes := #[] }, { accessFlags := 18, nameIndex := 15, descriptorIndex := 16, attributes := #[] }, { accessFlags := 18, nameIndex := 19, descriptorIndex := 12, attributes := #[] }, { accessFlags := 2, nameIndex := 22, descriptorIndex := 23, attributes := #[] }, { accessFlags := 66, nameIndex := 26, descriptorIndex := 23, attributes := #[] }])
  fields := #[{ name := "threadId", type := .long, accessFlags := 18, slot := 0, constantValue := 0 }, { name := "lease", type := (.object "com/example/exclude/exclude/lease/Lease"), accessFlags := 18, slot := 1, constantValue := 0 }, { name := "fencingToken", type := .long, accessFlags := 18, slot := 2, constantValue := 0 }, { name := "count", type := .int, accessFlags := 2, slot := 3, constantValue := 0 }, { name := "renewedFrom", type := .int, accessFlags := 66, slot := 4, constantValue := 0 }]
  methods := #[k2m0, k2m1, k2m2, k2m3, k2m4]
  instanceTypes := #[.long, (.object "com/example/exclude/exclude/lease/Lease"), .long, .int, .int]
  staticTypes := #[]
  resolved := Array.replicate 48 none
  statics := none }

def pool3 : Array CpInfo := pool [(1, u "java/lang/Cloneable"), (0, .class_ 1), (0, u "java/lang/Object"), (0, .class_ 3)] 3

/-- java/lang/Cloneable -/
def k3 : Class := { plain "java/lang/Cloneable" (some 0) with
  accessFlags := 1537
  interfaces := #[]
  cf := some (fileOf pool3 2 #[] #[] 1537 4 #[] #[])
  fields := #[]
  methods := #[]
  instanceTypes := #[]
  staticTypes := #[]
  resolved := Array.replicate 8 none
  statics := none }

def pool4 : Array CpInfo := pool [(1, u "java/io/Serializable"), (0, .class_ 1), (0, u "java/lang/Object"), (0, .class_ 3)] 3

/-- java/io/Serializable -/
def k4 : Class := { plain "java/io/Serializable" (some 0) with
  accessFlags := 1537
  interfaces := #[]
  cf := some (fileOf pool4 2 #[] #[] 1537 4 #[] #[])
  fields := #[]
  methods := #[]
  instanceTypes := #[]
  staticTypes := #[]
  resolved := Array.replicate 8 none
  statics := none }

/-- the primitive byte -/
def k5 : Class := { plain "byte" none with kind := .primitive 'B', accessFlags := 0x411 }
/-- [B -/
def k6 : Class := { plain "[B" (some 0) with kind := .array 5 .byte, interfaces := #[3, 4], accessFlags := 1041 }

/-- the primitive int -/
def k7 : Class := { plain "int" none with kind := .primitive 'I', accessFlags := 0x411 }
/-- [I -/
def k8 : Class := { plain "[I" (some 0) with kind := .array 7 .int, interfaces := #[3, 4], accessFlags := 1041 }

def heap : Heap := #[]
def classes : Array Class := #[k0, k1, k2, k3, k4, k5, k6, k7, k8]
def interned : List (Array UInt16 × Addr) := []
def slotsUsed : Nat := 0
def theMethod : MethodId := ⟨1, 1⟩
def args0 : Array Value := #[.int 5, .long 3, .long 1]
def aboutOver (below : List Frame) : State where
  vm := { classes := classes, interned := interned.toArray }
  heap := heap
  slotsUsed := slotsUsed
  threads := #[{ frames := .invoking theMethod args0 :: below }]
def below0 : List Frame := [.native { method := ⟨0, 0⟩, args := #[] }]
def about1 : State := aboutOver below0
def p0 : Program := .bare "" "" ""
def e0 : Env := launch0.env 0 0 0
theorem w_frames : about1.frames = Frame.invoking theMethod args0 :: below0 := rfl
set_option maxRecDepth 65536 in
theorem w_args : argsFit about1.vm theMethod args0 = true := by decide +kernel
set_option maxRecDepth 65536 in
theorem w_heap : heapFits about1 = true := by decide +kernel
set_option maxRecDepth 65536 in
theorem w_runnable : about1.curStatus? = some .runnable := by decide +kernel
set_option maxRecDepth 65536 in
theorem w_alone : about1.alone = true := by decide +kernel
set_option maxRecDepth 65536 in
theorem w_named : about1.methodNamed? x = some theMethod := by decide +kernel
set_option maxRecDepth 65536 in
theorem w_hears : about1.hears theMethod below0 = true := by decide +kernel
set_option maxRecDepth 65536 in
theorem w_ripe : about1.ripe theMethod args0 below0 = true := by decide +kernel
theorem w_running : about1.status = .running := rfl
set_option maxRecDepth 65536 in
theorem w_room : about1.hasRoom e0.platform room_1 = true :=
  launch0.hasRoom_least _ room_1 (by decide +kernel) (by decide +kernel) (by decide +kernel) (by decide +kernel) (by decide +kernel) (by decide +kernel)
theorem allAtoms_all (ts : List Jvm.Cond) (a : Array Jvm.Value) (st : Jvm.State) : (allAtoms ts).before a st = ts.all (fun c => c.before a st) := by
  induction ts with
  | nil => rfl
  | cons c t ih =>
    show (Jvm.Cond.and c (allAtoms t)).before a st = _
    rw [Jvm.Cond.before_and, ih, List.all_cons]
def words1 : List Jvm.Cond := Jvm.Cond.code x code maxLocals ret :: tables_1
/-- a 'code' word, met by the world's own term for the bytes: nothing is compared byte by byte -/
theorem code_word {y : MethodName} {bytes : ByteArray} {mx : Nat} {rt : Option FieldType} {a : Array Value} {s : State} {m : MethodId} {meth : Method} {c : Code} (h1 : s.methodNamed? y = some m) (h2 : s.vm.method? m = some meth) (h3 : meth.code = some c) (h4 : c.code = bytes)
    (h5 : (c.maxLocals == mx && c.exceptionTable.isEmpty && decide (c.maxStack ≤ mostOperands) && decide (meth.sig.returnType = rt) && !meth.locks && decide (parseMethodDescriptor y.desc = some meth.sig)) = true) : (Jvm.Cond.code y bytes mx rt).before a s = true := by
  simp only [Bool.and_eq_true, beq_iff_eq, Bool.not_eq_true', decide_eq_true_eq] at h5
  obtain ⟨⟨⟨⟨⟨g1, g2⟩, g3⟩, g4⟩, g5⟩, g6⟩ := h5
  simp [Cond.before, Cond.holds, Cond.value, h1, h2, h3, h4, g1, g2, g3, g4, g5, g6]
def isCode : Jvm.Cond → Bool
  | .code _ _ _ _ => true
  | _ => false
theorem all_split {L : List Jvm.Cond} {P : Jvm.Cond → Bool} (h1 : L.all (fun c => isCode c || P c) = true) (h2 : ∀ c ∈ L.filter isCode, P c = true) : L.all P = true := by
  refine List.all_eq_true.mpr fun c hc => ?_
  have h := List.all_eq_true.mp h1 c hc
  rcases Bool.eq_false_or_eq_true (isCode c) with hi | hi
  · exact h2 c (List.mem_filter.mpr ⟨hc, hi⟩)
  · simpa [hi] using h
set_option maxRecDepth 65536 in
theorem w_c0 : (Jvm.Cond.code x code maxLocals ret).before args0 about1 = true := code_word (m := ⟨1, 1⟩) (meth := k1m1) (c := k1c1) (by decide +kernel) rfl rfl rfl (by decide +kernel)
set_option maxRecDepth 65536 in
theorem w_c1 : (Jvm.Cond.code ({ cls := "com/example/exclude/exclude/lock/Hold", name := "<init>", desc := "(JLcom/example/exclude/exclude/lease/Lease;JZ)V" } : Jvm.MethodName) prog_3_method_1_code (7 : Nat) (Option.none : Option Jvm.ClassFile.FieldType)).before args0 about1 = true := code_word (m := ⟨2, 0⟩) (meth := k2m0) (c := k2c0) (by decide +kernel) rfl rfl rfl (by decide +kernel)
set_option maxRecDepth 65536 in
theorem w_c2 : (Jvm.Cond.code ({ cls := "java/lang/Object", name := "<init>", desc := "()V" } : Jvm.MethodName) object_method_1_code (1 : Nat) (Option.none : Option Jvm.ClassFile.FieldType)).before args0 about1 = true := code_word (m := ⟨0, 0⟩) (meth := k0m0) (c := k0c0) (by decide +kernel) rfl rfl rfl (by decide +kernel)
set_option maxRecDepth 65536 in
theorem w_c3 : (Jvm.Cond.code ({ cls := "com/example/exclude/exclude/lock/Hold", name := "enterAgain", desc := "(Z)V" } : Jvm.MethodName) prog_3_method_8_code (2 : Nat) (Option.none : Option Jvm.ClassFile.FieldType)).before args0 about1 = true := code_word (m := ⟨2, 3⟩) (meth := k2m3) (c := k2c3) (by decide +kernel) rfl rfl rfl (by decide +kernel)
set_option maxRecDepth 65536 in
theorem w_c4 : (Jvm.Cond.code ({ cls := "com/example/exclude/exclude/lock/Hold", name := "count", desc := "()I" } : Jvm.MethodName) prog_3_method_7_code (1 : Nat) (Option.some Jvm.ClassFile.FieldType.int)).before args0 about1 = true := code_word (m := ⟨2, 2⟩) (meth := k2m2) (c := k2c2) (by decide +kernel) rfl rfl rfl (by decide +kernel)
set_option maxRecDepth 65536 in
theorem w_c5 : (Jvm.Cond.code ({ cls := "com/example/exclude/exclude/lock/Hold", name := "isRenewed", desc := "()Z" } : Jvm.MethodName) prog_3_method_6_code (1 : Nat) (Option.some Jvm.ClassFile.FieldType.boolean)).before args0 about1 = true := code_word (m := ⟨2, 1⟩) (meth := k2m1) (c := k2c1) (by decide +kernel) rfl rfl rfl (by decide +kernel)
set_option maxRecDepth 65536 in
theorem w_c6 : (Jvm.Cond.code ({ cls := "com/example/exclude/exclude/lock/Hold", name := "exit", desc := "()Z" } : Jvm.MethodName) prog_3_method_9_code (1 : Nat) (Option.some Jvm.ClassFile.FieldType.boolean)).before args0 about1 = true := code_word (m := ⟨2, 4⟩) (meth := k2m4) (c := k2c4) (by decide +kernel) rfl rfl rfl (by decide +kernel)
def codes1 : List Jvm.Cond := [Jvm.Cond.code x code maxLocals ret, Jvm.Cond.code ({ cls := "com/example/exclude/exclude/lock/Hold", name := "<init>", desc := "(JLcom/example/exclude/exclude/lease/Lease;JZ)V" } : Jvm.MethodName) prog_3_method_1_code (7 : Nat) (Option.none : Option Jvm.ClassFile.FieldType), Jvm.Cond.code ({ cls := "java/lang/Object", name := "<init>", desc := "()V" } : Jvm.MethodName) object_method_1_code (1 : Nat) (Option.none : Option Jvm.ClassFile.FieldType), Jvm.Cond.code ({ cls := "com/example/exclude/exclude/lock/Hold", name := "enterAgain", desc := "(Z)V" } : Jvm.MethodName) prog_3_method_8_code (2 : Nat) (Option.none : Option Jvm.ClassFile.FieldType), Jvm.Cond.code ({ cls := "com/example/exclude/exclude/lock/Hold", name := "count", desc := "()I" } : Jvm.MethodName) prog_3_method_7_code (1 : Nat) (Option.some Jvm.ClassFile.FieldType.int), Jvm.Cond.code ({ cls := "com/example/exclude/exclude/lock/Hold", name := "isRenewed", desc := "()Z" } : Jvm.MethodName) prog_3_method_6_code (1 : Nat) (Option.some Jvm.ClassFile.FieldType.boolean), Jvm.Cond.code ({ cls := "com/example/exclude/exclude/lock/Hold", name := "exit", desc := "()Z" } : Jvm.MethodName) prog_3_method_9_code (1 : Nat) (Option.some Jvm.ClassFile.FieldType.boolean)]
set_option maxRecDepth 65536 in
theorem codes_eq : words1.filter isCode = codes1 := rfl
theorem w_codes : ∀ c ∈ words1.filter isCode, c.before args0 about1 = true := by
  rw [codes_eq]
  intro c hc
  simp only [codes1, List.mem_cons, List.not_mem_nil, or_false] at hc
  rcases hc with rfl | rfl | rfl | rfl | rfl | rfl | rfl
  · exact w_c0
  · exact w_c1
  · exact w_c2
  · exact w_c3
  · exact w_c4
  · exact w_c5
  · exact w_c6
set_option maxRecDepth 65536 in
theorem w_t1 : (words1.take 24).all (fun c => isCode c || c.before args0 about1) = true := by decide +kernel
set_option maxRecDepth 65536 in
theorem w_t2 : (words1.drop 24).all (fun c => isCode c || c.before args0 about1) = true := by decide +kernel
theorem w_tables : (allAtoms (Jvm.Cond.code x code maxLocals ret :: tables_1)).before args0 about1 = true := by
  rw [allAtoms_all]
  show words1.all (fun c => c.before args0 about1) = true
  refine all_split ?_ w_codes
  rw [← List.take_append_drop 24 words1, List.all_append, w_t1, w_t2]
  rfl
set_option maxRecDepth 65536 in
theorem w_case : (Jvm.Cond.and given_1 narrow_1).before args0 about1 = true := by decide +kernel
theorem w_applies : (headSpec (Jvm.Cond.code x code maxLocals ret :: tables_1) room_1).applies x e0.platform about1 = true :=
  (Spec.applies_iff w_frames).mpr ⟨w_running, w_runnable, w_alone, w_named, w_hears, w_ripe, w_room, w_tables⟩
theorem atStart : AtStart classFile x code maxLocals ret World_1 tables_1 room_1 Calls_1 rest_1 Pre_1 launch0 p0 e0 about1 theMethod args0 below0 :=
  ⟨lists_1, trivial, launch0.admits_env _ _ _, launch0.least_env, fairChoices_fair.cas, fairChoices_fair.clock, w_frames, w_args, w_heap, w_applies, trivial, trivial, w_case⟩
end start1
theorem witness_1 : WitnessClaimed_1 := ⟨start1.p0, start1.e0, start1.about1, start1.theMethod, start1.args0, start1.below0, start1.atStart⟩
end Jvm.Pilot.@@N@@
