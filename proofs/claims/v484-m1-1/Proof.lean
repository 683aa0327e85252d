import JvmDerived
import JvmDerived.Pilot.@@N@@Statement
import JvmDerived.Pilot.@@N@@Code
set_option linter.unusedVariables false
set_option linter.unusedSimpArgs false
namespace Jvm.OwnW
open Sem ClassFile Op Lib Jvm.Free Jvm.Stand Jvm.LawKit Jvm.RoadKit Jvm.Free.XT
/-! ## a walk's fixed data, and what is asked of the rest of it -/
abbrev Cx : Type := Program × Launch × Env × Room × State × MethodId × Array Value × List Frame × Method × Code
abbrev Cx.p (x : Cx) : Program := x.1
abbrev Cx.l (x : Cx) : Launch := x.2.1
abbrev Cx.e (x : Cx) : Env := x.2.2.1
abbrev Cx.R (x : Cx) : Room := x.2.2.2.1
abbrev Cx.s (x : Cx) : State := x.2.2.2.2.1
abbrev Cx.m (x : Cx) : MethodId := x.2.2.2.2.2.1
abbrev Cx.args (x : Cx) : Array Value := x.2.2.2.2.2.2.1
abbrev Cx.below (x : Cx) : List Frame := x.2.2.2.2.2.2.2.1
abbrev Cx.meth (x : Cx) : Method := x.2.2.2.2.2.2.2.2.1
abbrev Cx.c (x : Cx) : Code := x.2.2.2.2.2.2.2.2.2
abbrev Sd (x : Cx) (T : State) (locs : List Loc) (k n : Nat) : Prop := Stand x.p x.l x.e x.R x.s x.m x.args x.below x.meth x.c T locs k n
/-- what is known of a walk of the method nm (of the class own) over the tables of Z -/
def Ok (x : Cx) (Z : State) (own nm : String) (bytes : ByteArray) (ml : Nat) (rt : Option FieldType) (R : Room) : Prop :=
  x.p.tables.exec = Jvm.exec ∧ x.c.code = bytes ∧ x.c.maxLocals = ml ∧ x.s.vm.findClass own = some x.m.cls ∧ x.meth.name = nm ∧ Z.Warmed39 x.s.vm ∧ x.meth.sig.returnType = rt ∧ x.meth.locks = false ∧ x.R = R
abbrev Post : Type := Option Value → Heap → Prop
def Done (x : Cx) (n0 : Nat) (Q : Post) (U : State) : Prop :=
  ∃ s₂ o, Steps x.p.tables x.e x.below U s₂ ∧ s₂.status = .running ∧ Ended s₂ x.below o ∧ ∃ v L, o = .returned v ∧ (Q v s₂.heap ∧ Fr n0 L) ∧ FrameEnd x.s o s₂ L x.R.cells x.R.slots
/-- from here (heap h; k cells and n slots made so far; the frame) the walk comes to its end, and Q holds of it -/
def WP (x : Cx) (n0 : Nat) (Q : Post) (h : Heap) (k n : Nat) (pc : Nat) (L : Array Slot) (S : List Value) : Prop :=
  ∀ T locs, Sd x T locs k n → T.heap = h → Fr n0 locs → Done x n0 Q (T.setTop (mkF x.m pc L S))
/-- a method's contract at one heap and one list of arguments -/
def Con (l : Launch) (Z : State) (y : MethodName) (bytes : ByteArray) (maxL : Nat) (ret : Option FieldType) (rm : Room) (as : Array Value) (h : Heap) (n0 : Nat) (Q : Post) (ws : List Jvm.Cond) : Prop :=
  MetFree l y (head1 (Jvm.Cond.code y bytes maxL ret :: ws) rm) (fun a U => a = as ∧ Z.Warmed39 U.vm ∧ U.heap = h) (fun _ _ _ _ _ => True) (fun _ U o U' => ∃ v L, o = .returned v ∧ (Q v U'.heap ∧ Fr n0 L) ∧ FrameEnd U o U' L rm.cells rm.slots)
theorem wd {ts : List Jvm.Cond} {a0 : Array Value} {Z : State} (hw : ∀ d ∈ ts, d.before a0 Z = true) (k : Nat) {d : Jvm.Cond} (h : ts[k]? = some d) : d.before a0 Z = true := hw d (List.mem_of_getElem? h)
theorem ne_new {h : Heap} {a b : Addr} (hb : b < h.size) (e : a = h.size) : b ≠ a := by rw [e]; exact Nat.ne_of_lt hb
theorem Fld_c {Z : State} {h : Heap} {a : Addr} {O n d : String} {v w : Value} (F : Fld Z h a O n d v) (e : v = w) : Fld Z h a O n d w := e ▸ F
section Rules
variable {x : Cx} {Z : State} {own nm : String} {bytes : ByteArray} {ml : Nat} {rt : Option FieldType} {R : Room} {n0 : Nat} {Q : Post} {h : Heap} {k n : Nat} {pc pc' : Nat} {L L' : Array Slot} {S S' rest : List Value} {a0 : Array Value} {a : Addr} {v : Value}
theorem con_of_wp {l : Launch} {y : MethodName} {as : Array Value} {L0 : Array Slot} {ws : List Jvm.Cond} (pn : plainFor y = true) (ef : ∀ m, entryFrame m as ml = mkF m 0 L0 [])
    (H : ∀ x : Cx, x.l = l → Ok x Z y.cls y.name bytes ml rt R → WP x n0 Q h 0 0 0 L0 []) : Con l Z y bytes ml rt R as h n0 Q ws := by
  refine MetFree.of_bodySF pn hisR ?_
  intro p e s m args below meth c s₁ Bd hml0 hP hK
  obtain ⟨rfl, hZ, hh⟩ := hP
  have X0 : Stand p l e R s m args below meth c s₁ [] 0 0 := Stand.of_body Bd
  have e0 : s₁.heap = h := by rw [← hh, Bd.state]; rfl
  have ok : Ok (p, l, e, R, s, m, args, below, meth, c) Z y.cls y.name bytes ml rt R := ⟨Bd.exec, Bd.bytes, hml0, findClass_of_methodNamed Bd.named, (name_of_methodNamed Bd.named Bd.method).1, hZ, Bd.returns, Bd.notSynchronized, rfl⟩
  obtain ⟨s₂, o, h1, h2, h3, h4⟩ := H (p, l, e, R, s, m, args, below, meth, c) rfl ok s₁ [] X0 e0 (Fr.nil n0)
  exact ⟨s₂, o, castTop (ef m) h1, h2, h3, h4⟩
theorem wp_more {k' n' : Nat} (hk : k ≤ k') (hn : n ≤ n') (w : WP x n0 Q h k' n' pc L S) : WP x n0 Q h k n pc L S := fun T locs X e N => w T locs (X.more hk hn) e N
theorem wp_steps (st : ∀ T locs target, Sd x T locs k n → T.heap = h → Steps x.p.tables x.e x.below (T.setTop (mkF x.m pc' L' S')) target → Steps x.p.tables x.e x.below (T.setTop (mkF x.m pc L S)) target) (w : WP x n0 Q h k n pc' L' S') : WP x n0 Q h k n pc L S := fun T locs X e N => by
  obtain ⟨s₂, o, h1, r⟩ := w T locs X e N
  exact ⟨s₂, o, st T locs _ X e h1, r⟩
/-! ## returns -/
theorem wp_done {v' : Option Value} (ok : Ok x Z own nm bytes ml rt R) (hk : k ≤ R.cells) (hn : n ≤ R.slots) (hv : rt = none → v' = none) (hq : Q v' h)
    (st : ∀ T locs fs, Sd x T locs k n → (∀ (f : JFrame) (acts : List Action), f.method = x.m → f.locked = none → f.entered = [] → (doReturn x.e (T.setTop f) acts v').1 = T.setFrames fs) → Steps x.p.tables x.e x.below (T.setTop (mkF x.m pc L S)) (T.setFrames fs)) : WP x n0 Q h k n pc L S := fun T locs X e N => by
  obtain ⟨hx, hby, hml, hown, hnm, hZ, hrt, hlk, hR⟩ := ok
  have hlocks : x.meth.locks = false := hlk
  obtain ⟨fs, hr, hrun, hended, hW, hsame⟩ := X.leave (v := v') (fun q => hv (hrt.symm.trans q)) hlocks
  refine ⟨_, _, st T locs fs X hr, hrun, hended, _, locs, rfl, ⟨?_, N⟩, ⟨_, rfl⟩, hW, hsame.mono (by rw [hR]; exact hk) (by rw [hR]; exact hn)⟩
  show Q v' T.heap
  rw [e]; exact hq
theorem wp_retV (ok : Ok x Z own nm bytes ml none R) (hd : decode bytes pc = .ok (.return_, 1)) (hk : k ≤ R.cells) (hn : n ≤ R.slots) (hq : Q none h) : WP x n0 Q h k n pc L [] :=
  wp_done ok hk hn (fun _ => rfl) hq fun T locs fs X hr => X.returnOut ok.1 ok.2.2.2.2.2.2.1 (hb ok.2.1 hd) hr
theorem wp_retZ {z : Int32} {t : FieldType} (ok : Ok x Z own nm bytes ml (some t) R) (ht : t = .boolean ∨ t = .byte ∨ t = .char ∨ t = .short) (hd : decode bytes pc = .ok (.ireturn, 1)) (hk : k ≤ R.cells) (hn : n ≤ R.slots) (hq : Q (some (.int (nar t z))) h) : WP x n0 Q h k n pc L (.int z :: rest) :=
  wp_done ok hk hn (fun q => nomatch q) hq fun T locs fs X hr => retN X ok.1 ok.2.2.2.2.2.2.1 ht (hb ok.2.1 hd) hr
theorem wp_retI {z : Int32} (ok : Ok x Z own nm bytes ml (some .int) R) (hd : decode bytes pc = .ok (.ireturn, 1)) (hk : k ≤ R.cells) (hn : n ≤ R.slots) (hq : Q (some (.int z)) h) : WP x n0 Q h k n pc L (.int z :: rest) :=
  wp_done ok hk hn (fun q => nomatch q) hq fun T locs fs X hr => retOut X ok.1 ok.2.2.2.2.2.2.1 (w := .int z) rfl (Or.inl ⟨rfl, Or.inl rfl, z, rfl⟩) (hb ok.2.1 hd) hr
theorem wp_retJ {z : Int64} (ok : Ok x Z own nm bytes ml (some .long) R) (hd : decode bytes pc = .ok (.lreturn, 1)) (hk : k ≤ R.cells) (hn : n ≤ R.slots) (hq : Q (some (.long z)) h) : WP x n0 Q h k n pc L (.long z :: rest) :=
  wp_done ok hk hn (fun q => nomatch q) hq fun T locs fs X hr => retOut X ok.1 ok.2.2.2.2.2.2.1 (w := .long z) rfl (Or.inr (Or.inl ⟨rfl, rfl, z, rfl⟩)) (hb ok.2.1 hd) hr
theorem wp_retA {w : Value} {t : FieldType} (ok : Ok x Z own nm bytes ml (some t) R) (ht : t.isReference = true) (hw : w.isRef = true) (hd : decode bytes pc = .ok (.areturn, 1)) (hk : k ≤ R.cells) (hn : n ≤ R.slots) (hq : Q (some w) h) : WP x n0 Q h k n pc L [w] :=
  wp_done ok hk hn (fun q => nomatch q) hq fun T locs fs X hr => X.areturnOut ok.1 hw ok.2.2.2.2.2.2.1 ht (hb ok.2.1 hd) hr
/-! ## the heap -/
theorem wp_getF {O nf d : String} {index : Nat} (ok : Ok x Z own nm bytes ml rt R) (w : (Jvm.Cond.fieldLink own index O nf d).before a0 Z = true) (F : Fld Z h a O nf d v) (hd : decode bytes pc = .ok (.getfield index, 3)) (hw : WP x n0 Q h k n (pc + 3) L (v :: rest)) : WP x n0 Q h k n pc L (.ref a :: rest) := fun T locs X e N => by
  obtain ⟨T', X', e', st⟩ := getF X ok.1 ok.2.2.2.2.2.1 ok.2.2.2.1 (host := "") (Or.inl w) Via.refl e F (g := mkF x.m pc L (.ref a :: rest)) rfl rfl (hb ok.2.1 hd)
  obtain ⟨s₂, o, h1, r⟩ := hw T' locs X' e' N
  exact ⟨s₂, o, st _ h1, r⟩
theorem wp_putF {O nf d C : String} {index kk : Nat} {ty : FieldType} {old : Value} (ok : Ok x Z own nm bytes ml rt R) (w : (Jvm.Cond.fieldLink own index O nf d).before a0 Z = true) (F : Fld Z h a O nf d old) (E : Exa Z h a C)
    (Ly : (Jvm.Cond.lays C O nf d).before a0 Z = true ∨ ((Jvm.Cond.laysFinal C O nf d).before a0 Z = true ∧ own = O ∧ nm = "<init>")) (wi : (Jvm.Cond.instantiable C kk).before a0 Z = true) (hty : parseFieldDescriptor d = some ty) (hnw : narrow ty v = v) (hf : fits ty v = true) (hd : decode bytes pc = .ok (.putfield index, 3)) (ha : n0 ≤ a)
    (hw : ∀ h', Wr h h' a (Jvm.RoadKit.slotOf Z O nf d) v → WP x n0 Q h' k n (pc + 3) L rest) : WP x n0 Q h k n pc L (v :: .ref a :: rest) := fun T locs X e N => by
  obtain ⟨T', h', X', e', W, st⟩ := putF X ok.1 ok.2.2.2.2.2.1 ok.2.2.2.1 (host := "") (Or.inl w) Via.refl e F E (Ly.imp id fun q => ⟨q.1, q.2.1, ok.2.2.2.2.1.trans q.2.2⟩) wi hty hnw hf (g := mkF x.m pc L (v :: .ref a :: rest)) rfl rfl (hb ok.2.1 hd)
  obtain ⟨s₂, o, h1, r⟩ := hw h' W T' _ X' e' (Fr.snoc X' N ha)
  exact ⟨s₂, o, st _ h1, r⟩
theorem wp_new {C : String} {index sz : Nat} (ok : Ok x Z own nm bytes ml rt R) (w : (Jvm.Cond.classLink own index C).before a0 Z = true) (wi : (Jvm.Cond.instantiable C sz).before a0 Z = true) (wz : (Jvm.Cond.initialized C).before a0 Z = true) (hd : decode bytes pc = .ok (.new index, 3)) (hk : k + 1 ≤ R.cells) (hn : n + sz ≤ R.slots)
    (hw : ∀ h' a, a = h.size → Ext h h' → Exa Z h' a C → (∀ {O nf d : String} {ty : FieldType}, Laid Z a0 C O nf d → parseFieldDescriptor d = some ty → Fld Z h' a O nf d (defaultValue ty)) → WP x n0 Q h' (k + 1) (n + sz) (pc + 3) L (.ref a :: S)) : WP x n0 Q h k n pc L S := fun T locs X e N => by
  obtain ⟨T', h', X', e', E, A, D, -, st⟩ := newO X ok.1 ok.2.2.2.2.2.1 ok.2.2.2.1 w wi wz e (g := mkF x.m pc L S) rfl (hb ok.2.1 hd) (by rw [ok.2.2.2.2.2.2.2.2]; exact hk) (by rw [ok.2.2.2.2.2.2.2.2]; exact hn)
  obtain ⟨s₂, o, h1, r⟩ := hw h' h.size rfl E A D T' _ X' e' N
  exact ⟨s₂, o, st _ h1, r⟩
theorem wp_initO {index : Nat} (ok : Ok x Z own nm bytes ml rt R) (w1 : (Jvm.Cond.methodLink own index Lib.objectInit).before a0 Z = true) (w2 : (Jvm.Cond.instanceMethod Lib.objectInit).before a0 Z = true) (w3 : (Jvm.Cond.code Lib.objectInit ⟨#[0xb1]⟩ 1 none).before a0 Z = true) (hL : L.size = ml)
    (hd : decode bytes pc = .ok (.invokespecial index, 3)) (hf : 1 ≤ R.frames) (hl : (rest.map fun v => v.category).sum + 12 ≤ R.locals) (hw : WP x n0 Q h k n (pc + 3) L rest) : WP x n0 Q h k n pc L (.ref a :: rest) := fun T locs X e N => by
  obtain ⟨T', X', e', st⟩ := initO X ok.1 ok.2.2.2.2.2.1 ok.2.2.2.1 w1 w2 w3 e (g := mkF x.m pc L (.ref a :: rest)) rfl (by show L.size = _; rw [ok.2.2.1]; exact hL) rfl (hb ok.2.1 hd) (by rw [ok.2.2.2.2.2.2.2.2]; exact hf) (W := (rest.map fun v => v.category).sum) (by show 2 * 0 + _ ≤ _; omega) (by rw [ok.2.2.2.2.2.2.2.2]; exact hl)
  obtain ⟨s₂, o, h1, r⟩ := hw T' locs X' e' N
  exact ⟨s₂, o, st _ h1, r⟩
/-! ## calls by contract -/
theorem wp_static {y : MethodName} {cb : ByteArray} {cm : Nat} {cr : Option FieldType} {rm : Room} {index : Nat} {argsL : List Value} {Q' : Post} {ps : List FieldType} (ok : Ok x Z own nm bytes ml rt R) (w1 : (Jvm.Cond.methodLink own index y).before a0 Z = true) (w2 : (Jvm.Cond.static y).before a0 Z = true) (w3 : (Jvm.Cond.initialized y.cls).before a0 Z = true) (w4 : (Jvm.Cond.code y cb cm cr).before a0 Z = true)
    (hy : y.cls ≠ "java/lang/invoke/MethodHandle" ∧ y.cls ≠ "java/lang/invoke/VarHandle") (C : Con x.l Z y cb cm cr rm argsL.toArray h n0 Q' []) (pd : parseMethodDescriptor y.desc = some ⟨ps, cr⟩) (hlen : argsL.length = ps.length) (hst : S = argsL.reverse ++ rest) (hL : L.size = ml) (hd : decode bytes pc = .ok (.invokestatic index, 3))
    (hf : rm.frames + 1 ≤ R.frames) (hl : (rest.map fun v => v.category).sum + (cm + 11) + rm.locals ≤ R.locals) (hk : k + rm.cells ≤ R.cells) (hn : n + rm.slots ≤ R.slots)
    (hw : ∀ v h', Q' v h' → WP x n0 Q h' (k + rm.cells) (n + rm.slots) (pc + 3) L (v.toList ++ rest)) : WP x n0 Q h k n pc L S := fun T locs X e N => by
  have hZ := ok.2.2.2.2.2.1
  have hR := ok.2.2.2.2.2.2.2.2
  obtain ⟨v, _, ⟨T', L2, k2, n2⟩, -, X', ⟨Lc, hQ, l1, y1, z1⟩, st⟩ := Jvm.LawKit.callS X ok.1 (y := y) ok.2.2.2.1 (mvT hZ w1) (mvT hZ w2) (mvT hZ w3) (mvT hZ w4) hy (backOf (W := (rest.map fun v => v.category).sum) (Q := fun v h L => Q' v h ∧ Fr n0 L) C hZ w4 w3 (by rw [hR]; exact hf) (by rw [hR]; exact hl)) (g := mkF x.m pc L S) rfl (by show L.size = _; rw [ok.2.2.1]; exact hL) (argsL := argsL) (rest := rest) (lenOf pd hlen) hst (by show 2 * 0 + _ ≤ _; omega) (hb ok.2.1 hd) (fun _ _ => ⟨rfl, e, by rw [hR]; exact hk, by rw [hR]; exact hn⟩)
  dsimp only [Pt.U, Pt.locs, Pt.cells, Pt.slots] at X' l1 y1 z1 st hQ
  subst l1 y1 z1
  obtain ⟨s₂, o, h1, r⟩ := hw v _ hQ.1 T' _ X' rfl (Fr.app N hQ.2)
  exact ⟨s₂, o, st _ h1, r⟩
theorem wp_special {y : MethodName} {cb : ByteArray} {cm : Nat} {rm : Room} {index : Nat} {argsL : List Value} {Q' : Post} {ps : List FieldType} (ok : Ok x Z own nm bytes ml rt R) (hy1 : y.name = "<init>") (w1 : (Jvm.Cond.methodLink own index y).before a0 Z = true) (w2 : (Jvm.Cond.instanceMethod y).before a0 Z = true) (w3 : (Jvm.Cond.initialized y.cls).before a0 Z = true) (w4 : (Jvm.Cond.code y cb cm none).before a0 Z = true)
    (hy : y.cls ≠ "java/lang/invoke/MethodHandle" ∧ y.cls ≠ "java/lang/invoke/VarHandle") (C : Con x.l Z y cb cm none rm (Value.ref a :: argsL).toArray h n0 Q' []) (pd : parseMethodDescriptor y.desc = some ⟨ps, none⟩) (hlen : argsL.length = ps.length) (hst : S = argsL.reverse ++ .ref a :: rest) (hL : L.size = ml) (hd : decode bytes pc = .ok (.invokespecial index, 3))
    (hf : rm.frames + 1 ≤ R.frames) (hl : (rest.map fun v => v.category).sum + (cm + 11) + rm.locals ≤ R.locals) (hk : k + rm.cells ≤ R.cells) (hn : n + rm.slots ≤ R.slots)
    (hw : ∀ v h', Q' v h' → WP x n0 Q h' (k + rm.cells) (n + rm.slots) (pc + 3) L (v.toList ++ rest)) : WP x n0 Q h k n pc L S := fun T locs X e N => by
  have hZ := ok.2.2.2.2.2.1
  have hR := ok.2.2.2.2.2.2.2.2
  obtain ⟨v, _, ⟨T', L2, k2, n2⟩, -, X', ⟨Lc, hQ, l1, y1, z1⟩, st⟩ := X.specialBack ok.1 (y := y) hy1 ok.2.2.2.1 (mvT hZ w1) (mvT hZ w2) (mvT hZ w4) hy (backOf (W := (rest.map fun v => v.category).sum) (Q := fun v h L => Q' v h ∧ Fr n0 L) C hZ w4 w3 (by rw [hR]; exact hf) (by rw [hR]; exact hl)) (g := mkF x.m pc L S) rfl (by show L.size = _; rw [ok.2.2.1]; exact hL) (Steps.refl _) (a := a) (argsL := argsL) (rest := rest) (lenOf pd hlen) hst (by show 2 * 0 + _ ≤ _; omega) (hb ok.2.1 hd) (fun _ _ => ⟨rfl, e, by rw [hR]; exact hk, by rw [hR]; exact hn⟩)
  dsimp only [Pt.U, Pt.locs, Pt.cells, Pt.slots] at X' l1 y1 z1 st hQ
  subst l1 y1 z1
  obtain ⟨s₂, o, h1, r⟩ := hw v _ hQ.1 T' _ X' rfl (Fr.app N hQ.2)
  exact ⟨s₂, o, st.trans h1, r⟩
theorem wp_virtual {y : MethodName} {cb : ByteArray} {cm : Nat} {cr : Option FieldType} {rm : Room} {index : Nat} {argsL : List Value} {Q' : Post} {ps : List FieldType} {C : String} (ok : Ok x Z own nm bytes ml rt R) (w1 : (Jvm.Cond.methodLink own index y).before a0 Z = true) (w5 : (Jvm.Cond.declares y).before a0 Z = true) (w6 : (Jvm.Cond.selects C y y).before a0 Z = true) (w2 : (Jvm.Cond.instanceMethod y).before a0 Z = true) (w3 : (Jvm.Cond.initialized y.cls).before a0 Z = true) (w4 : (Jvm.Cond.code y cb cm cr).before a0 Z = true)
    (hy : y.cls ≠ "java/lang/invoke/MethodHandle" ∧ y.cls ≠ "java/lang/invoke/VarHandle") (E : Exa Z h a C) (Cn : Con x.l Z y cb cm cr rm (Value.ref a :: argsL).toArray h n0 Q' []) (pd : parseMethodDescriptor y.desc = some ⟨ps, cr⟩) (hlen : argsL.length = ps.length) (hst : S = argsL.reverse ++ .ref a :: rest) (hL : L.size = ml) (hd : decode bytes pc = .ok (.invokevirtual index, 3))
    (hf : rm.frames + 1 ≤ R.frames) (hl : (rest.map fun v => v.category).sum + (cm + 11) + rm.locals ≤ R.locals) (hk : k + rm.cells ≤ R.cells) (hn : n + rm.slots ≤ R.slots)
    (hw : ∀ v h', Q' v h' → WP x n0 Q h' (k + rm.cells) (n + rm.slots) (pc + 3) L (v.toList ++ rest)) : WP x n0 Q h k n pc L S := fun T locs X e N => by
  have hZ := ok.2.2.2.2.2.1
  have hR := ok.2.2.2.2.2.2.2.2
  obtain ⟨cq, kq, qa, qb, qc⟩ := isOf (T := T) (s := x.s) hZ e E
  obtain ⟨v, _, ⟨T', L2, k2, n2⟩, -, X', ⟨Lc, hQ, l1, y1, z1⟩, st⟩ := X.virtualBack ok.1 (y := y) (z := y) ok.2.2.2.1 (mvT hZ w1) (mvT hZ w5) (notFace_of_selects (args := #[]) (mvT hZ w6)) (mvT hZ w6) (mvT hZ w2) hy (backOf (W := (rest.map fun v => v.category).sum) (Q := fun v h L => Q' v h ∧ Fr n0 L) Cn hZ w4 w3 (by rw [hR]; exact hf) (by rw [hR]; exact hl)) qa qc (g := mkF x.m pc L S) rfl (by show L.size = _; rw [ok.2.2.1]; exact hL) (Steps.refl _) (argsL := argsL) (rest := rest) (lenOf pd hlen) hst (by show 2 * 0 + _ ≤ _; omega) (hb ok.2.1 hd) (fun _ _ => ⟨rfl, e, by rw [hR]; exact hk, by rw [hR]; exact hn⟩)
  dsimp only [Pt.U, Pt.locs, Pt.cells, Pt.slots] at X' l1 y1 z1 st hQ
  subst l1 y1 z1
  obtain ⟨s₂, o, h1, r⟩ := hw v _ hQ.1 T' _ X' rfl (Fr.app N hQ.2)
  exact ⟨s₂, o, st.trans h1, r⟩
/-! ## arrays -/
theorem wp_newA {aty : ArrayType} {z : Int32} {cap : Nat} (ok : Ok x Z own nm bytes ml rt R) (w : (Jvm.Cond.arrayClass (newarray.typeOf aty)).before a0 Z = true) (hd : decode bytes pc = .ok (.newarray aty, 2)) (hz : ¬ z < 0) (hcap : z.toNatClampNeg ≤ cap) (hb8 : cap * 8 ≤ 536870912) (hk : k + 1 ≤ R.cells) (hn : n + cap ≤ R.slots)
    (hw : ∀ h' a cA, a = h.size → Ext h h' → Arr Z h' a (newA cA (newarray.typeOf aty) z) (newarray.typeOf aty) → WP x n0 Q h' (k + 1) (n + cap) (pc + 2) L (.ref a :: rest)) : WP x n0 Q h k n pc L (.int z :: rest) := fun T locs X e N => by
  obtain ⟨T', h', cA, X', e', E, A, st⟩ := newP X ok.1 ok.2.2.2.2.2.1 w e (g := mkF x.m pc L (.int z :: rest)) rfl (hb ok.2.1 hd) rfl hz hcap hb8 (by rw [ok.2.2.2.2.2.2.2.2]; exact hk) (by rw [ok.2.2.2.2.2.2.2.2]; exact hn)
  obtain ⟨s₂, o, h1, r⟩ := hw h' _ cA rfl E A T' _ X' e' N
  exact ⟨s₂, o, st _ h1, r⟩
theorem wp_stI {cl : Cell} {j z : Int32} (ok : Ok x Z own nm bytes ml rt R) (A : Arr Z h a cl .int) (hj : ¬ (j < 0 ∨ cl.slots.size ≤ j.toNatClampNeg)) (hd : decode bytes pc = .ok (.iastore, 1)) (ha : n0 ≤ a)
    (hw : ∀ h', Wr h h' a j.toNatClampNeg (.int z) → WP x n0 Q h' k n (pc + 1) L rest) : WP x n0 Q h k n pc L (.int z :: .int j :: .ref a :: rest) := fun T locs X e N => by
  obtain ⟨T', h', X', e', W, st⟩ := stI X ok.1 ok.2.2.2.2.2.1 e A hj (g := mkF x.m pc L (.int z :: .int j :: .ref a :: rest)) rfl rfl (hb ok.2.1 hd)
  obtain ⟨s₂, o, h1, r⟩ := hw h' W T' _ X' e' (Fr.snoc X' N ha)
  exact ⟨s₂, o, st _ h1, r⟩
theorem wp_stJ {cl : Cell} {j : Int32} {z : Int64} (ok : Ok x Z own nm bytes ml rt R) (A : Arr Z h a cl .long) (hj : ¬ (j < 0 ∨ cl.slots.size ≤ j.toNatClampNeg)) (hd : decode bytes pc = .ok (.lastore, 1)) (ha : n0 ≤ a)
    (hw : ∀ h', Wr h h' a j.toNatClampNeg (.long z) → WP x n0 Q h' k n (pc + 1) L rest) : WP x n0 Q h k n pc L (.long z :: .int j :: .ref a :: rest) := fun T locs X e N => by
  obtain ⟨T', h', X', e', W, st⟩ := stJ X ok.1 ok.2.2.2.2.2.1 e A hj (g := mkF x.m pc L (.long z :: .int j :: .ref a :: rest)) rfl rfl (hb ok.2.1 hd)
  obtain ⟨s₂, o, h1, r⟩ := hw h' W T' _ X' e' (Fr.snoc X' N ha)
  exact ⟨s₂, o, st _ h1, r⟩
theorem wp_ldI {cl : Cell} {j : Int32} (ok : Ok x Z own nm bytes ml rt R) (A : Arr Z h a cl .int) (hj : ¬ (j < 0 ∨ cl.slots.size ≤ j.toNatClampNeg)) (hv : cl.slots[j.toNatClampNeg]? = some v) (hd : decode bytes pc = .ok (.iaload, 1)) (hw : WP x n0 Q h k n (pc + 1) L (v :: rest)) : WP x n0 Q h k n pc L (.int j :: .ref a :: rest) :=
  wp_steps (fun T locs target X e hr => X.iaload ok.1 (by rw [e]; exact A.1) (State.isArrayOf_alike ok.2.2.2.2.2.1.alike A.2.1) A.2.2 hj hv (g := mkF x.m pc L (.int j :: .ref a :: rest)) rfl rfl (hb ok.2.1 hd) target hr) hw
theorem wp_ldJ {cl : Cell} {j : Int32} (ok : Ok x Z own nm bytes ml rt R) (A : Arr Z h a cl .long) (hj : ¬ (j < 0 ∨ cl.slots.size ≤ j.toNatClampNeg)) (hv : cl.slots[j.toNatClampNeg]? = some v) (hd : decode bytes pc = .ok (.laload, 1)) (hw : WP x n0 Q h k n (pc + 1) L (v :: rest)) : WP x n0 Q h k n pc L (.int j :: .ref a :: rest) :=
  wp_steps (fun T locs target X e hr => X.laload ok.1 (by rw [e]; exact A.1) (State.isArrayOf_alike ok.2.2.2.2.2.1.alike A.2.1) A.2.2 hj hv (g := mkF x.m pc L (.int j :: .ref a :: rest)) rfl rfl (hb ok.2.1 hd) target hr) hw
theorem wp_ldB {cl : Cell} {j : Int32} (ok : Ok x Z own nm bytes ml rt R) (A : Arr Z h a cl .byte) (hj : ¬ (j < 0 ∨ cl.slots.size ≤ j.toNatClampNeg)) (hv : cl.slots[j.toNatClampNeg]? = some v) (hd : decode bytes pc = .ok (.baload, 1)) (hw : WP x n0 Q h k n (pc + 1) L (v :: rest)) : WP x n0 Q h k n pc L (.int j :: .ref a :: rest) :=
  wp_steps (fun T locs target X e hr => X.baloadBytes ok.1 (by rw [e]; exact A.1) (State.isArrayOf_alike ok.2.2.2.2.2.1.alike A.2.1) A.2.2 hj hv (g := mkF x.m pc L (.int j :: .ref a :: rest)) rfl rfl (hb ok.2.1 hd) target hr) hw
theorem wp_ldZ {cl : Cell} {j : Int32} (ok : Ok x Z own nm bytes ml rt R) (A : Arr Z h a cl .boolean) (hj : ¬ (j < 0 ∨ cl.slots.size ≤ j.toNatClampNeg)) (hv : cl.slots[j.toNatClampNeg]? = some v) (hd : decode bytes pc = .ok (.baload, 1)) (hw : WP x n0 Q h k n (pc + 1) L (v :: rest)) : WP x n0 Q h k n pc L (.int j :: .ref a :: rest) :=
  wp_steps (fun T locs target X e hr => X.baloadBooleans ok.1 (by rw [e]; exact A.1) (State.isArrayOf_alike ok.2.2.2.2.2.1.alike A.2.1) A.2.2 hj hv (g := mkF x.m pc L (.int j :: .ref a :: rest)) rfl rfl (hb ok.2.1 hd) target hr) hw
theorem wp_len {cl : Cell} {ty : FieldType} (ok : Ok x Z own nm bytes ml rt R) (A : Arr Z h a cl ty) (hd : decode bytes pc = .ok (.arraylength, 1)) (hw : WP x n0 Q h k n (pc + 1) L (.int cl.slots.size.toInt32 :: rest)) : WP x n0 Q h k n pc L (.ref a :: rest) :=
  wp_steps (fun T locs target X e hr => X.arraylength ok.1 (by rw [e]; exact A.1) (State.isArrayOf_alike ok.2.2.2.2.2.1.alike A.2.1) (g := mkF x.m pc L (.ref a :: rest)) rfl rfl (hb ok.2.1 hd) target hr) hw
end Rules
end Jvm.OwnW
namespace Jvm.OwnW
open Jvm.RoadKit
theorem c_lmod (x y : Int64) (d : Int) (hy : y.toInt = d) : (0 ≤ x.toInt → (x % y).toInt = x.toInt % d) ∧ (x.toInt < 0 → (x % y).toInt = -((-x.toInt) % d)) := by rw [← lrem_mod]; exact c_lrem x y d hy
theorem x_ladd {x y : Int64} (h1 : -9223372036854775808 ≤ x.toInt + y.toInt) (h2 : x.toInt + y.toInt < 9223372036854775808) : (x + y).toInt = x.toInt + y.toInt := by
  have := c_ladd x y; have := (x + y).toInt_lt; have := (x + y).le_toInt; omega
theorem x_lsub {x y : Int64} (h1 : -9223372036854775808 ≤ x.toInt - y.toInt) (h2 : x.toInt - y.toInt < 9223372036854775808) : (x - y).toInt = x.toInt - y.toInt := by
  have := c_lsub x y; have := (x - y).toInt_lt; have := (x - y).le_toInt; omega
theorem x_lmul {x y : Int64} (h1 : -9223372036854775808 ≤ x.toInt * y.toInt) (h2 : x.toInt * y.toInt < 9223372036854775808) : (x * y).toInt = x.toInt * y.toInt := by
  have q := c_lmul x y; have := (x * y).toInt_lt; have := (x * y).le_toInt
  generalize x.toInt * y.toInt = p at *; omega
theorem x_iadd {x y : Int32} (h1 : -2147483648 ≤ x.toInt + y.toInt) (h2 : x.toInt + y.toInt < 2147483648) : (x + y).toInt = x.toInt + y.toInt := by
  have := c_iadd x y; have := (x + y).toInt_lt; have := (x + y).le_toInt; omega
theorem x_isub {x y : Int32} (h1 : -2147483648 ≤ x.toInt - y.toInt) (h2 : x.toInt - y.toInt < 2147483648) : (x - y).toInt = x.toInt - y.toInt := by
  have := c_isub x y; have := (x - y).toInt_lt; have := (x - y).le_toInt; omega
theorem x_imul {x y : Int32} (h1 : -2147483648 ≤ x.toInt * y.toInt) (h2 : x.toInt * y.toInt < 2147483648) : (x * y).toInt = x.toInt * y.toInt := by
  have q := c_imul x y; have := (x * y).toInt_lt; have := (x * y).le_toInt
  generalize x.toInt * y.toInt = p at *; omega
theorem nar01 {z : Int32} (h : z = 0 ∨ z = 1) : nar .boolean z = z := by rcases h with rfl | rfl <;> rfl
end Jvm.OwnW
namespace Jvm.OwnW
open Sem ClassFile Op Lib Jvm.Free Jvm.Stand Jvm.LawKit Jvm.RoadKit Jvm.Free.XT
/-! ## plain steps, by evaluation: a block of instructions from a frame to a frame, with the props that it asks (a branch's direction, a divisor) -/
def ush (x y : Int32) : Int32 := (x.toUInt32 >>> (y &&& 31).toUInt32).toInt32
def ushL (x : Int64) (y : Int32) : Int64 := (x.toUInt64 >>> (y &&& 63).toInt64.toUInt64).toInt64
theorem c_ush (x q : Int32) (k : Nat) (hk : q.toBitVec.toNat % 32 = k) (h0 : 0 < k) : (ush x q).toInt = (x.toInt % 4294967296) / (2 ^ k : Nat) := c_iushr x q k hk h0
theorem c_ushL (x : Int64) (q : Int32) (k : Nat) (hk : q.toBitVec.toNat % 64 = k) (h0 : 0 < k) : (ushL x q).toInt = (x.toInt % 18446744073709551616) / (2 ^ k : Nat) := c_lushr x q k hk h0
abbrev Res : Type := Option (List Prop × Nat × Array Slot × List Value)
def bin32 (f : Int32 → Int32 → Int32) (pc : Nat) (L : Array Slot) : List Value → Res
  | .int y :: .int z :: r => some ([], pc + 1, L, .int (f z y) :: r)
  | _ => none
def bin64 (f : Int64 → Int64 → Int64) (pc : Nat) (L : Array Slot) : List Value → Res
  | .long y :: .long z :: r => some ([], pc + 1, L, .long (f z y) :: r)
  | _ => none
def sh64 (f : Int64 → Int32 → Int64) (pc : Nat) (L : Array Slot) : List Value → Res
  | .int y :: .long z :: r => some ([], pc + 1, L, .long (f z y) :: r)
  | _ => none
def un32 (f : Int32 → Value) (pc : Nat) (L : Array Slot) : List Value → Res
  | .int z :: r => some ([], pc + 1, L, f z :: r)
  | _ => none
def un64 (f : Int64 → Value) (pc : Nat) (L : Array Slot) : List Value → Res
  | .long z :: r => some ([], pc + 1, L, f z :: r)
  | _ => none
def ldK (ok : Value → Bool) (i pc' : Nat) (L : Array Slot) (S : List Value) : Res :=
  match L[i]? with
  | some (.val v) => if ok v = true then some ([], pc', L, v :: S) else none
  | _ => none
def stK (ok : Value → Bool) (i pc' : Nat) (L : Array Slot) : List Value → Res
  | v :: r => if ok v = true then (match storeLocals L i v with | some L' => some ([], pc', L', r) | none => none) else none
  | [] => none
def isI : Value → Bool | .int _ => true | _ => false
def isJ : Value → Bool | .long _ => true | _ => false
def constI : Option Value → Option Int32 | some (.int z) => some z | _ => none
def constJ : Option Value → Option Int64 | some (.long z) => some z | _ => none
def look (K : List (Nat × Value)) (i : Nat) : Option Value := match K with
  | [] => none
  | (j, v) :: r => if j = i then some v else look r i
def jump (pc : Nat) (o : Int) : Option Nat := if 0 ≤ (pc : Int) + o then some ((pc : Int) + o).toNat else none
def br (p : Prop) (b : Bool) (pc : Nat) (o : Int) (L : Array Slot) (S : List Value) : Res :=
  if b = true then (match jump pc o with | some q => some ([p], q, L, S) | none => none) else some ([p], pc + 3, L, S)
def stp (K : List (Nat × Value)) (b : Bool) (i : Instr) (pc : Nat) (L : Array Slot) (S : List Value) : Res :=
  match i with
  | .iconst z => some ([], pc + 1, L, .int (Int32.ofInt z) :: S)
  | .bipush z => some ([], pc + 2, L, .int (Int8.ofInt z).toInt32 :: S)
  | .sipush z => some ([], pc + 3, L, .int (Int16.ofInt z).toInt32 :: S)
  | .lconst z => some ([], pc + 1, L, .long (Int64.ofNat z) :: S)
  | .aconst_null => some ([], pc + 1, L, .null :: S)
  | .ldc j => (match constI (look K j) with | some z => some ([], pc + 2, L, .int z :: S) | none => none)
  | .ldc2_w j => (match constJ (look K j) with | some z => some ([], pc + 3, L, .long z :: S) | none => none)
  | .iload_n j => ldK isI j.val (pc + 1) L S
  | .iload j => ldK isI j (pc + 2) L S
  | .lload_n j => ldK isJ j.val (pc + 1) L S
  | .lload j => ldK isJ j (pc + 2) L S
  | .aload_n j => ldK Value.isRef j.val (pc + 1) L S
  | .aload j => ldK Value.isRef j (pc + 2) L S
  | .istore_n j => stK isI j.val (pc + 1) L S
  | .istore j => stK isI j (pc + 2) L S
  | .lstore_n j => stK isJ j.val (pc + 1) L S
  | .lstore j => stK isJ j (pc + 2) L S
  | .astore_n j => stK Value.isRef j.val (pc + 1) L S
  | .astore j => stK Value.isRef j (pc + 2) L S
  | .iadd => bin32 (fun z y => z + y) pc L S
  | .isub => bin32 (fun z y => z - y) pc L S
  | .imul => bin32 (fun z y => z * y) pc L S
  | .iand => bin32 (fun z y => z &&& y) pc L S
  | .ior => bin32 (fun z y => z ||| y) pc L S
  | .ixor => bin32 (fun z y => z ^^^ y) pc L S
  | .ishl => bin32 (fun z y => z <<< (y &&& 31)) pc L S
  | .ishr => bin32 (fun z y => z >>> (y &&& 31)) pc L S
  | .iushr => bin32 (fun z y => ush z y) pc L S
  | .ladd => bin64 (fun z y => z + y) pc L S
  | .lsub => bin64 (fun z y => z - y) pc L S
  | .lmul => bin64 (fun z y => z * y) pc L S
  | .land => bin64 (fun z y => z &&& y) pc L S
  | .lor => bin64 (fun z y => z ||| y) pc L S
  | .lxor => bin64 (fun z y => z ^^^ y) pc L S
  | .lshl => sh64 (fun z y => z <<< (y &&& 63).toInt64) pc L S
  | .lshr => sh64 (fun z y => z >>> (y &&& 63).toInt64) pc L S
  | .lushr => sh64 (fun z y => ushL z y) pc L S
  | .ineg => un32 (fun z => .int (-z)) pc L S
  | .lneg => un64 (fun z => .long (-z)) pc L S
  | .i2l => un32 (fun z => .long z.toInt64) pc L S
  | .l2i => un64 (fun z => .int z.toInt32) pc L S
  | .i2b => un32 (fun z => .int z.toInt8.toInt32) pc L S
  | .i2c => un32 (fun z => .int z.toUInt32.toUInt16.toUInt32.toInt32) pc L S
  | .i2s => un32 (fun z => .int z.toInt16.toInt32) pc L S
  | .idiv => (match S with | .int y :: .int z :: r => some ([y ≠ 0], pc + 1, L, .int (z / y) :: r) | _ => none)
  | .irem => (match S with | .int y :: .int z :: r => some ([y ≠ 0], pc + 1, L, .int (z % y) :: r) | _ => none)
  | .ldiv => (match S with | .long y :: .long z :: r => some ([y ≠ 0], pc + 1, L, .long (z / y) :: r) | _ => none)
  | .lrem => (match S with | .long y :: .long z :: r => some ([y ≠ 0], pc + 1, L, .long (z % y) :: r) | _ => none)
  | .lcmp => (match S with | .long y :: .long z :: r => some ([], pc + 1, L, .int (cmpL z y) :: r) | _ => none)
  | .pop => (match S with | v :: r => if v.category = 1 then some ([], pc + 1, L, r) else none | _ => none)
  | .dup => (match S with | v :: r => if v.category = 1 then some ([], pc + 1, L, v :: v :: r) else none | _ => none)
  | .dup_x1 => (match S with | v :: w :: r => if v.category = 1 ∧ w.category = 1 then some ([], pc + 1, L, v :: w :: v :: r) else none | _ => none)
  | .dup2 => (match S with | v :: w :: r => if v.category = 1 ∧ w.category = 1 then some ([], pc + 1, L, v :: w :: v :: w :: r) else none | _ => none)
  | .iinc j c => (match L[j]? with | some (.val (.int z)) => (match storeLocals L j (.int (z + Int32.ofInt c)) with | some L' => some ([], pc + 3, L', S) | none => none) | _ => none)
  | .goto o => (match jump pc o with | some q => some ([], q, L, S) | none => none)
  | .ifCond cd o => (match S with | .int z :: r => br (ifCond.holds cd z = b) b pc o L r | _ => none)
  | .if_icmp cd o => (match S with | .int y :: .int z :: r => br (if_icmp.holds cd z y = b) b pc o L r | _ => none)
  | .ifnull o => (match S with | .null :: r => if b = true then br True b pc o L r else none | .ref _ :: r => if b = true then none else br True b pc o L r | _ => none)
  | .ifnonnull o => (match S with | .null :: r => if b = true then none else br True b pc o L r | .ref _ :: r => if b = true then br True b pc o L r else none | _ => none)
  | _ => none
def ilen : Instr → Nat
  | .bipush _ => 2 | .ldc _ => 2 | .iload _ => 2 | .lload _ => 2 | .aload _ => 2 | .istore _ => 2 | .lstore _ => 2 | .astore _ => 2
  | .sipush _ => 3 | .ldc2_w _ => 3 | .iinc _ _ => 3 | .goto _ => 3 | .ifCond _ _ => 3 | .if_icmp _ _ => 3 | .ifnull _ => 3 | .ifnonnull _ => 3
  | _ => 1
def runL (K : List (Nat × Value)) : List (Nat × Instr × Bool) → Nat → Array Slot → List Value → Res
  | [], pc, L, S => some ([], pc, L, S)
  | (q, i, b) :: r, pc, L, S => if q = pc then (match stp K b i pc L S with
      | none => none
      | some (ps, pc', L', S') => match runL K r pc' L' S' with
        | none => none
        | some (ps', t) => some (ps ++ ps', t)) else none
def decs (bytes : ByteArray) (B : List (Nat × Instr × Bool)) : Bool := B.all fun q => decide (decode bytes q.1 = .ok (q.2.1, ilen q.2.1))
def allP : List Prop → Prop
  | [] => True
  | p :: r => p ∧ allP r
theorem allP_append {ps qs : List Prop} (h : allP (ps ++ qs)) : allP ps ∧ allP qs := by
  induction ps with
  | nil => exact ⟨trivial, h⟩
  | cons p r ih => exact ⟨⟨h.1, (ih h.2).1⟩, (ih h.2).2⟩
def Konst (Z : State) (a0 : Array Value) (own : String) : List (Nat × Value) → Prop
  | [] => True
  | (i, v) :: r => ((∃ z, v = .int z ∧ (Jvm.Cond.constant own i z).before a0 Z = true) ∨ (∃ z, v = .long z ∧ (Jvm.Cond.constantLong own i z).before a0 Z = true)) ∧ Konst Z a0 own r
theorem look_spec {Z : State} {a0 : Array Value} {own : String} {K : List (Nat × Value)} (hK : Konst Z a0 own K) {i : Nat} {v : Value} (h : look K i = some v) : (∃ z, v = .int z ∧ (Jvm.Cond.constant own i z).before a0 Z = true) ∨ (∃ z, v = .long z ∧ (Jvm.Cond.constantLong own i z).before a0 Z = true) := by
  induction K with
  | nil => cases h
  | cons q r ih =>
    obtain ⟨j, w⟩ := q
    simp only [look] at h
    split at h
    · rename_i e; subst e; cases h; exact hK.1
    · exact ih hK.2 h
theorem constI_spec {o : Option Value} {z : Int32} (h : constI o = some z) : o = some (.int z) := by
  cases o with
  | none => cases h
  | some v => cases v <;> simp [constI] at h; rw [h]
theorem constJ_spec {o : Option Value} {z : Int64} (h : constJ o = some z) : o = some (.long z) := by
  cases o with
  | none => cases h
  | some v => cases v <;> simp [constJ] at h; rw [h]
theorem ldK_spec {ok : Value → Bool} {i q : Nat} {L : Array Slot} {S : List Value} {ps : List Prop} {pc' : Nat} {L' : Array Slot} {S' : List Value} (h : ldK ok i q L S = some (ps, pc', L', S')) : ∃ v, L[i]? = some (.val v) ∧ ok v = true ∧ pc' = q ∧ L' = L ∧ S' = v :: S := by
  unfold ldK at h
  split at h
  · split at h
    · rename_i v e1 e2; cases h; exact ⟨v, e1, e2, rfl, rfl, rfl⟩
    · cases h
  · cases h
theorem stK_spec {ok : Value → Bool} {i q : Nat} {L : Array Slot} {S : List Value} {ps : List Prop} {pc' : Nat} {L' : Array Slot} {S' : List Value} (h : stK ok i q L S = some (ps, pc', L', S')) : ∃ v, S = v :: S' ∧ ok v = true ∧ pc' = q ∧ storeLocals L i v = some L' := by
  cases S with
  | nil => cases h
  | cons v r =>
    simp only [stK] at h
    split at h
    · split at h
      · rename_i e1 _ _ e2; cases h; exact ⟨v, rfl, e1, rfl, e2⟩
      · cases h
    · cases h
theorem isI_spec {v : Value} (h : isI v = true) : ∃ z, v = .int z := by cases v <;> simp [isI] at h ⊢
theorem isJ_spec {v : Value} (h : isJ v = true) : ∃ z, v = .long z := by cases v <;> simp [isJ] at h ⊢
theorem bin32_spec {f : Int32 → Int32 → Int32} {pc : Nat} {L : Array Slot} {S : List Value} {ps : List Prop} {pc' : Nat} {L' : Array Slot} {S' : List Value} (h : bin32 f pc L S = some (ps, pc', L', S')) : ∃ z y r, S = .int y :: .int z :: r ∧ pc' = pc + 1 ∧ L' = L ∧ S' = .int (f z y) :: r := by
  unfold bin32 at h; split at h
  · cases h; exact ⟨_, _, _, rfl, rfl, rfl, rfl⟩
  · cases h
theorem bin64_spec {f : Int64 → Int64 → Int64} {pc : Nat} {L : Array Slot} {S : List Value} {ps : List Prop} {pc' : Nat} {L' : Array Slot} {S' : List Value} (h : bin64 f pc L S = some (ps, pc', L', S')) : ∃ z y r, S = .long y :: .long z :: r ∧ pc' = pc + 1 ∧ L' = L ∧ S' = .long (f z y) :: r := by
  unfold bin64 at h; split at h
  · cases h; exact ⟨_, _, _, rfl, rfl, rfl, rfl⟩
  · cases h
theorem sh64_spec {f : Int64 → Int32 → Int64} {pc : Nat} {L : Array Slot} {S : List Value} {ps : List Prop} {pc' : Nat} {L' : Array Slot} {S' : List Value} (h : sh64 f pc L S = some (ps, pc', L', S')) : ∃ z y r, S = .int y :: .long z :: r ∧ pc' = pc + 1 ∧ L' = L ∧ S' = .long (f z y) :: r := by
  unfold sh64 at h; split at h
  · cases h; exact ⟨_, _, _, rfl, rfl, rfl, rfl⟩
  · cases h
theorem un32_spec {f : Int32 → Value} {pc : Nat} {L : Array Slot} {S : List Value} {ps : List Prop} {pc' : Nat} {L' : Array Slot} {S' : List Value} (h : un32 f pc L S = some (ps, pc', L', S')) : ∃ z r, S = .int z :: r ∧ pc' = pc + 1 ∧ L' = L ∧ S' = f z :: r := by
  unfold un32 at h; split at h
  · cases h; exact ⟨_, _, rfl, rfl, rfl, rfl⟩
  · cases h
theorem un64_spec {f : Int64 → Value} {pc : Nat} {L : Array Slot} {S : List Value} {ps : List Prop} {pc' : Nat} {L' : Array Slot} {S' : List Value} (h : un64 f pc L S = some (ps, pc', L', S')) : ∃ z r, S = .long z :: r ∧ pc' = pc + 1 ∧ L' = L ∧ S' = f z :: r := by
  unfold un64 at h; split at h
  · cases h; exact ⟨_, _, rfl, rfl, rfl, rfl⟩
  · cases h
theorem jump_spec {pc q : Nat} {o : Int} (h : jump pc o = some q) : 0 ≤ (pc : Int) + o ∧ ((pc : Int) + o).toNat = q := by
  unfold jump at h; split at h
  · cases h; exact ⟨by assumption, rfl⟩
  · cases h
theorem br_spec {p : Prop} {b : Bool} {pc : Nat} {o : Int} {L : Array Slot} {S : List Value} {ps : List Prop} {pc' : Nat} {L' : Array Slot} {S' : List Value} (h : br p b pc o L S = some (ps, pc', L', S')) : ps = [p] ∧ L' = L ∧ S' = S ∧ ((b = true ∧ jump pc o = some pc') ∨ (b = false ∧ pc' = pc + 3)) := by
  unfold br at h; split at h
  · rename_i e; split at h
    · rename_i e2; cases h; exact ⟨rfl, rfl, rfl, Or.inl ⟨e, e2⟩⟩
    · cases h
  · rename_i e; cases h; exact ⟨rfl, rfl, rfl, Or.inr ⟨by simpa using e, rfl⟩⟩
section Run
variable {x : Cx} {Z : State} {own nm : String} {bytes : ByteArray} {ml : Nat} {rt : Option FieldType} {R : Room} {n0 : Nat} {Q : Post} {h : Heap} {k n : Nat} {pc pc' : Nat} {L L' : Array Slot} {S S' rest : List Value} {a0 : Array Value} {K : List (Nat × Value)} {ps : List Prop}
theorem stp_ok (ok : Ok x Z own nm bytes ml rt R) (hK : Konst Z a0 own K) {b : Bool} {i : Instr} (hd : decode bytes pc = .ok (i, ilen i)) (hs : stp K b i pc L S = some (ps, pc', L', S')) (hp : allP ps)
    {T : State} {locs : List Loc} {target : State} (X : Sd x T locs k n) (hr : Steps x.p.tables x.e x.below (T.setTop (mkF x.m pc' L' S')) target) : Steps x.p.tables x.e x.below (T.setTop (mkF x.m pc L S)) target := by
  obtain ⟨hx, hby, -, hown, -, hZ, -⟩ := ok
  have hd' := hb hby hd
  have hA : At T x.m x.c x.below := X.here
  cases i
  case iconst z => cases hs; exact XS.iconst hA hx rfl hd' hr
  case bipush z => cases hs; exact XS.bipush hA hx rfl hd' hr
  case sipush z => cases hs; exact XS.sipush hA hx rfl hd' hr
  case lconst z => cases hs; exact XS.lconst hA hx rfl hd' hr
  case aconst_null => cases hs; exact XS.aconstNull hA hx rfl hd' hr
  case ldc j =>
    simp only [stp] at hs
    split at hs
    · rename_i e
      cases hs
      rcases look_spec hK (constI_spec e) with ⟨z, e1, e2⟩ | ⟨z, e1, e2⟩
      · cases e1; exact X.ldcI hx hown (mvT hZ e2) rfl hd' hr
      · cases e1
    · cases hs
  case ldc2_w j =>
    simp only [stp] at hs
    split at hs
    · rename_i e
      cases hs
      rcases look_spec hK (constJ_spec e) with ⟨z, e1, e2⟩ | ⟨z, e1, e2⟩
      · cases e1
      · cases e1; exact X.ldc2J hx hown (mvT hZ e2) rfl hd' hr
    · cases hs
  case iload_n j => obtain ⟨v, e1, e2, rfl, rfl, rfl⟩ := ldK_spec hs; obtain ⟨z, rfl⟩ := isI_spec e2; exact XS.iloadN hA hx rfl hd' e1 hr
  case iload j => obtain ⟨v, e1, e2, rfl, rfl, rfl⟩ := ldK_spec hs; obtain ⟨z, rfl⟩ := isI_spec e2; exact XS.iload hA hx rfl hd' e1 hr
  case lload_n j => obtain ⟨v, e1, e2, rfl, rfl, rfl⟩ := ldK_spec hs; obtain ⟨z, rfl⟩ := isJ_spec e2; exact XS.lloadN hA hx rfl hd' e1 hr
  case lload j => obtain ⟨v, e1, e2, rfl, rfl, rfl⟩ := ldK_spec hs; obtain ⟨z, rfl⟩ := isJ_spec e2; exact XS.lload hA hx rfl hd' e1 hr
  case aload_n j => obtain ⟨v, e1, e2, rfl, rfl, rfl⟩ := ldK_spec hs; exact XS.aloadN hA hx rfl hd' e1 e2 hr
  case aload j => obtain ⟨v, e1, e2, rfl, rfl, rfl⟩ := ldK_spec hs; exact XS.aload hA hx rfl hd' e1 e2 hr
  case istore_n j => obtain ⟨v, rfl, e2, rfl, e3⟩ := stK_spec hs; obtain ⟨z, rfl⟩ := isI_spec e2; exact XS.istoreN hA hx rfl hd' rfl e3 hr
  case istore j => obtain ⟨v, rfl, e2, rfl, e3⟩ := stK_spec hs; obtain ⟨z, rfl⟩ := isI_spec e2; exact XS.istore hA hx rfl hd' rfl e3 hr
  case lstore_n j => obtain ⟨v, rfl, e2, rfl, e3⟩ := stK_spec hs; obtain ⟨z, rfl⟩ := isJ_spec e2; exact XS.lstoreN hA hx rfl hd' rfl e3 hr
  case lstore j => obtain ⟨v, rfl, e2, rfl, e3⟩ := stK_spec hs; obtain ⟨z, rfl⟩ := isJ_spec e2; exact XS.lstore hA hx rfl hd' rfl e3 hr
  case astore_n j => obtain ⟨v, rfl, e2, rfl, e3⟩ := stK_spec hs; exact XS.astoreN hA hx rfl hd' rfl e2 e3 hr
  case astore j => obtain ⟨v, rfl, e2, rfl, e3⟩ := stK_spec hs; exact XS.astore hA hx rfl hd' rfl e2 e3 hr
  case iadd => obtain ⟨z, y, r, rfl, rfl, rfl, rfl⟩ := bin32_spec hs; exact XS.iadd hA hx rfl hd' rfl hr
  case isub => obtain ⟨z, y, r, rfl, rfl, rfl, rfl⟩ := bin32_spec hs; exact XS.isub hA hx rfl hd' rfl hr
  case imul => obtain ⟨z, y, r, rfl, rfl, rfl, rfl⟩ := bin32_spec hs; exact XS.imul hA hx rfl hd' rfl hr
  case iand => obtain ⟨z, y, r, rfl, rfl, rfl, rfl⟩ := bin32_spec hs; exact XS.iand hA hx rfl hd' rfl hr
  case ior => obtain ⟨z, y, r, rfl, rfl, rfl, rfl⟩ := bin32_spec hs; exact XS.ior hA hx rfl hd' rfl hr
  case ixor => obtain ⟨z, y, r, rfl, rfl, rfl, rfl⟩ := bin32_spec hs; exact XS.ixor hA hx rfl hd' rfl hr
  case ishl => obtain ⟨z, y, r, rfl, rfl, rfl, rfl⟩ := bin32_spec hs; exact XS.ishl hA hx rfl hd' rfl hr
  case ishr => obtain ⟨z, y, r, rfl, rfl, rfl, rfl⟩ := bin32_spec hs; exact XS.ishr hA hx rfl hd' rfl hr
  case iushr => obtain ⟨z, y, r, rfl, rfl, rfl, rfl⟩ := bin32_spec hs; exact XS.iushr hA hx rfl hd' rfl hr
  case ladd => obtain ⟨z, y, r, rfl, rfl, rfl, rfl⟩ := bin64_spec hs; exact XS.ladd hA hx rfl hd' rfl hr
  case lsub => obtain ⟨z, y, r, rfl, rfl, rfl, rfl⟩ := bin64_spec hs; exact XS.lsub hA hx rfl hd' rfl hr
  case lmul => obtain ⟨z, y, r, rfl, rfl, rfl, rfl⟩ := bin64_spec hs; exact XS.lmul hA hx rfl hd' rfl hr
  case land => obtain ⟨z, y, r, rfl, rfl, rfl, rfl⟩ := bin64_spec hs; exact XS.land hA hx rfl hd' rfl hr
  case lor => obtain ⟨z, y, r, rfl, rfl, rfl, rfl⟩ := bin64_spec hs; exact XS.lor hA hx rfl hd' rfl hr
  case lxor => obtain ⟨z, y, r, rfl, rfl, rfl, rfl⟩ := bin64_spec hs; exact XS.lxor hA hx rfl hd' rfl hr
  case lshl => obtain ⟨z, y, r, rfl, rfl, rfl, rfl⟩ := sh64_spec hs; exact XS.lshl hA hx rfl hd' rfl hr
  case lshr => obtain ⟨z, y, r, rfl, rfl, rfl, rfl⟩ := sh64_spec hs; exact XS.lshr hA hx rfl hd' rfl hr
  case lushr => obtain ⟨z, y, r, rfl, rfl, rfl, rfl⟩ := sh64_spec hs; exact XS.lushr hA hx rfl hd' rfl hr
  case ineg => obtain ⟨z, r, rfl, rfl, rfl, rfl⟩ := un32_spec hs; exact XS.ineg hA hx rfl hd' rfl hr
  case lneg => obtain ⟨z, r, rfl, rfl, rfl, rfl⟩ := un64_spec hs; exact XS.lneg hA hx rfl hd' rfl hr
  case i2l => obtain ⟨z, r, rfl, rfl, rfl, rfl⟩ := un32_spec hs; exact XS.i2l hA hx rfl hd' rfl hr
  case l2i => obtain ⟨z, r, rfl, rfl, rfl, rfl⟩ := un64_spec hs; exact XS.l2i hA hx rfl hd' rfl hr
  case i2b => obtain ⟨z, r, rfl, rfl, rfl, rfl⟩ := un32_spec hs; exact XS.i2b hA hx rfl hd' rfl hr
  case i2c => obtain ⟨z, r, rfl, rfl, rfl, rfl⟩ := un32_spec hs; exact XS.i2c hA hx rfl hd' rfl hr
  case i2s => obtain ⟨z, r, rfl, rfl, rfl, rfl⟩ := un32_spec hs; exact XS.i2s hA hx rfl hd' rfl hr
  case idiv =>
    simp only [stp] at hs
    split at hs
    · cases hs; exact XS.idiv hA hx rfl hd' rfl hp.1 hr
    · cases hs
  case irem =>
    simp only [stp] at hs
    split at hs
    · cases hs; exact iremM X hx rfl hd' rfl hp.1 hr
    · cases hs
  case ldiv =>
    simp only [stp] at hs
    split at hs
    · cases hs; exact XS.ldiv hA hx rfl hd' rfl hp.1 hr
    · cases hs
  case lrem =>
    simp only [stp] at hs
    split at hs
    · rename_i y z r
      cases hs
      have q : z - z / y * y = z % y := lrem_mod z y
      exact XS.lrem hA hx rfl hd' rfl hp.1 (by rw [q]; exact hr)
    · cases hs
  case lcmp =>
    simp only [stp] at hs
    split at hs
    · cases hs; exact XS.lcmp hA hx rfl hd' rfl hr
    · cases hs
  case pop =>
    simp only [stp] at hs
    split at hs
    · split at hs
      · rename_i e; cases hs; exact XS.pop hA hx rfl hd' rfl e hr
      · cases hs
    · cases hs
  case dup =>
    simp only [stp] at hs
    split at hs
    · split at hs
      · rename_i e; cases hs; exact XS.dup hA hx rfl hd' rfl e hr
      · cases hs
    · cases hs
  case dup_x1 =>
    simp only [stp] at hs
    split at hs
    · split at hs
      · rename_i e; cases hs; exact XS.dupX1 hA hx rfl hd' rfl e.1 e.2 hr
      · cases hs
    · cases hs
  case dup2 =>
    simp only [stp] at hs
    split at hs
    · split at hs
      · rename_i e; cases hs; exact XT.dup2 hA hx rfl hd' rfl e.1 e.2 hr
      · cases hs
    · cases hs
  case iinc j c =>
    simp only [stp] at hs
    split at hs
    · rename_i e1
      split at hs
      · rename_i e2; cases hs; exact XS.iinc hA hx rfl hd' e1 e2 hr
      · cases hs
    · cases hs
  case goto o =>
    simp only [stp] at hs
    split at hs
    · rename_i e; cases hs; obtain ⟨e1, e2⟩ := jump_spec e; exact XS.goto hA hx rfl rfl hd' e1 e2 hr
    · cases hs
  case ifCond cd o =>
    simp only [stp] at hs
    split at hs
    · obtain ⟨rfl, rfl, rfl, ⟨rfl, e⟩ | ⟨rfl, rfl⟩⟩ := br_spec hs
      · obtain ⟨e1, e2⟩ := jump_spec e; exact XS.ifYes hA hx rfl rfl hd' rfl hp.1 e1 e2 hr
      · exact XS.ifNo hA hx rfl hd' rfl hp.1 hr
    · cases hs
  case if_icmp cd o =>
    simp only [stp] at hs
    split at hs
    · obtain ⟨rfl, rfl, rfl, ⟨rfl, e⟩ | ⟨rfl, rfl⟩⟩ := br_spec hs
      · obtain ⟨e1, e2⟩ := jump_spec e; exact XS.icmpYes hA hx rfl rfl hd' rfl hp.1 e1 e2 hr
      · exact XS.icmpNo hA hx rfl hd' rfl hp.1 hr
    · cases hs
  case ifnull o =>
    simp only [stp] at hs
    split at hs
    · split at hs
      · rename_i e0; subst e0
        obtain ⟨rfl, rfl, rfl, ⟨-, e⟩ | ⟨e, -⟩⟩ := br_spec hs
        · obtain ⟨e1, e2⟩ := jump_spec e; exact XS.ifnullYes hA hx rfl rfl hd' rfl e1 e2 hr
        · cases e
      · cases hs
    · split at hs
      · cases hs
      · rename_i e0
        obtain ⟨rfl, rfl, rfl, ⟨e, -⟩ | ⟨-, rfl⟩⟩ := br_spec hs
        · exact absurd e e0
        · exact XS.ifnullNo hA hx rfl hd' rfl hr
    · cases hs
  case ifnonnull o =>
    simp only [stp] at hs
    split at hs
    · split at hs
      · cases hs
      · rename_i e0
        obtain ⟨rfl, rfl, rfl, ⟨e, -⟩ | ⟨-, rfl⟩⟩ := br_spec hs
        · exact absurd e e0
        · exact XS.ifnonnullNo hA hx rfl hd' rfl hr
    · split at hs
      · rename_i e0; subst e0
        obtain ⟨rfl, rfl, rfl, ⟨-, e⟩ | ⟨e, -⟩⟩ := br_spec hs
        · obtain ⟨e1, e2⟩ := jump_spec e; exact XS.ifnonnullYes hA hx rfl rfl hd' rfl e1 e2 hr
        · cases e
      · cases hs
    · cases hs
  all_goals cases hs
theorem run_ok (ok : Ok x Z own nm bytes ml rt R) (hK : Konst Z a0 own K) : ∀ (B : List (Nat × Instr × Bool)) {pc : Nat} {L : Array Slot} {S : List Value} {ps : List Prop} {pc' : Nat} {L' : Array Slot} {S' : List Value}, decs bytes B = true → runL K B pc L S = some (ps, pc', L', S') → allP ps →
    ∀ {T : State} {locs : List Loc} {target : State}, Sd x T locs k n → Steps x.p.tables x.e x.below (T.setTop (mkF x.m pc' L' S')) target → Steps x.p.tables x.e x.below (T.setTop (mkF x.m pc L S)) target
  | [], pc, L, S, ps, pc', L', S', _, hr, _, T, locs, target, X, st => by cases hr; exact st
  | (q, i, b) :: r, pc, L, S, ps, pc', L', S', hd, hr, hp, T, locs, target, X, st => by
    simp only [decs, List.all_cons, Bool.and_eq_true, decide_eq_true_eq] at hd
    simp only [runL] at hr
    split at hr
    · rename_i e; subst e
      split at hr
      · cases hr
      · rename_i ps1 pc1 L1 S1 e1
        split at hr
        · cases hr
        · rename_i ps2 t e2
          cases hr
          obtain ⟨p1, p2⟩ := allP_append hp
          exact stp_ok ok hK hd.1 e1 p1 X (run_ok ok hK r hd.2 e2 p2 X st)
    · cases hr
theorem wp_run (ok : Ok x Z own nm bytes ml rt R) (hK : Konst Z a0 own K) {B : List (Nat × Instr × Bool)} (hd : decs bytes B = true) (hr : runL K B pc L S = some (ps, pc', L', S')) (hp : allP ps) (w : WP x n0 Q h k n pc' L' S') : WP x n0 Q h k n pc L S :=
  wp_steps (fun T locs target X _ st => run_ok ok hK B hd hr hp X st) w
end Run
end Jvm.OwnW
namespace Jvm.Pilot.@@N@@
open Jvm Jvm.ClassFile Sem Op Lib Jvm.Free Jvm.Stand Jvm.LawKit Jvm.RoadKit Bundle Jvm.OwnW Jvm.Free.XT Jvm.Pilot.@@N@@.Jvm.D
def k_rec : List (Nat × Value) := []
def Q_rec (Z : State) (a : Addr) (h0 : Heap) : Post := fun v h => v = none ∧ h0 = h
theorem pn_rec : plainFor (⟨"java/lang/Record", "<init>", "()V"⟩ : MethodName) = true := by first | (refine plainFor_of_name ?_; simp [plainName, overriddenIn]; done) | decide +kernel
set_option maxRecDepth 65536 in
set_option maxHeartbeats 40000000 in
theorem c_rec (l : Launch) (Z : State) (a0 : Array Value) (hw : ∀ d ∈ tables_1, d.before a0 Z = true) (a : Addr) (h0 : Heap) (n0 : Nat) (Z0 : n0 ≤ h0.size) :
    Con l Z (⟨"java/lang/Record", "<init>", "()V"⟩ : MethodName) jdk_30_method_1_code 1 (none : Option FieldType) ({ frames := 1, cells := 0, slots := 0, locals := 12 } : Room) #[(.ref a)] h0 n0 (Q_rec Z a h0) [] := by
  refine con_of_wp pn_rec (L0 := #[.val ((.ref a))]) (fun m => by first | (simp [entryFrame, mkF, argsToLocals, Value.category]; done) | rfl) (fun X hl ok => ?_)
  subst hl
  have hK : Konst Z a0 "java/lang/Record" k_rec := trivial
  refine wp_run ok hK (B := [(0, .aload_n 0, false)]) (by decide +kernel) (pc' := 1) (L' := #[.val ((.ref a))]) (S' := [(.ref a)]) rfl trivial ?_
  refine wp_initO ok (wd hw 11 rfl) (wd hw 12 rfl) (wd hw 13 rfl) (by rfl) (by decide +kernel) (by decide) (Nat.le_of_ble_eq_true rfl) ?_
  refine wp_retV ok (by decide +kernel) (by decide) (by decide) ?_
  exact ⟨rfl, rfl⟩
def k_ini : List (Nat × Value) := []
def Q_ini (Z : State) (a : Addr) (p : Int64) (q : Int64) (r : Int64) (s : Int64) (t : Int32) (z0 : Int64) (z1 : Int64) (z2 : Int64) (z3 : Int64) (z4 : Int32) (h0 : Heap) : Post := fun v h => v = none ∧ Keep h0 h [a] ∧ Fld Z h a "threadloom/cli/HandoffTally$Counts" "received" "J" (.long p) ∧ Fld Z h a "threadloom/cli/HandoffTally$Counts" "lost" "J" (.long q) ∧ Fld Z h a "threadloom/cli/HandoffTally$Counts" "duplicated" "J" (.long r) ∧ Fld Z h a "threadloom/cli/HandoffTally$Counts" "orderViolations" "J" (.long s) ∧ Fld Z h a "threadloom/cli/HandoffTally$Counts" "loopThreads" "I" (.int t)
theorem pn_ini : plainFor (⟨"threadloom/cli/HandoffTally$Counts", "<init>", "(JJJJI)V"⟩ : MethodName) = true := by first | (refine plainFor_of_name ?_; simp [plainName, overriddenIn]; done) | decide +kernel
set_option maxRecDepth 65536 in
set_option maxHeartbeats 40000000 in
theorem c_ini (l : Launch) (Z : State) (a0 : Array Value) (hw : ∀ d ∈ tables_1, d.before a0 Z = true) (a : Addr) (p : Int64) (q : Int64) (r : Int64) (s : Int64) (t : Int32) (z0 : Int64) (z1 : Int64) (z2 : Int64) (z3 : Int64) (z4 : Int32) (h0 : Heap) (n0 : Nat) (Z0 : n0 ≤ h0.size) (E_a : Exa Z h0 a "threadloom/cli/HandoffTally$Counts") (F_a_received : Fld Z h0 a "threadloom/cli/HandoffTally$Counts" "received" "J" (.long z0)) (F_a_lost : Fld Z h0 a "threadloom/cli/HandoffTally$Counts" "lost" "J" (.long z1)) (F_a_duplicated : Fld Z h0 a "threadloom/cli/HandoffTally$Counts" "duplicated" "J" (.long z2)) (F_a_orderViolations : Fld Z h0 a "threadloom/cli/HandoffTally$Counts" "orderViolations" "J" (.long z3)) (F_a_loopThreads : Fld Z h0 a "threadloom/cli/HandoffTally$Counts" "loopThreads" "I" (.int z4)) (g_a : n0 ≤ a) :
    Con l Z (⟨"threadloom/cli/HandoffTally$Counts", "<init>", "(JJJJI)V"⟩ : MethodName) prog_32_method_1_code 10 (none : Option FieldType) ({ frames := 2, cells := 0, slots := 0, locals := 24 } : Room) #[(.ref a), .long p, .long q, .long r, .long s, .int t] h0 n0 (Q_ini Z a p q r s t z0 z1 z2 z3 z4 h0) [] := by
  refine con_of_wp pn_ini (L0 := #[.val ((.ref a)), .val (.long p), .second, .val (.long q), .second, .val (.long r), .second, .val (.long s), .second, .val (.int t)]) (fun m => by first | (simp [entryFrame, mkF, argsToLocals, Value.category]; done) | rfl) (fun X hl ok => ?_)
  subst hl
  have hK : Konst Z a0 "threadloom/cli/HandoffTally$Counts" k_ini := trivial
  have K0 : Keep h0 h0 [a] := Keep.refl _ _
  refine wp_run ok hK (B := [(0, .aload_n 0, false)]) (by decide +kernel) (pc' := 1) (L' := #[.val ((.ref a)), .val (.long p), .second, .val (.long q), .second, .val (.long r), .second, .val (.long s), .second, .val (.int t)]) (S' := [(.ref a)]) rfl trivial ?_
  refine wp_special ok rfl (wd hw 6 rfl) (wd hw 7 rfl) (wd hw 9 rfl) (wd hw 10 rfl) (by decide) (argsL := []) (rest := []) (c_rec _ Z a0 hw a h0 n0 Z0 ) (ps := []) (by decide +kernel) (by rfl) (by rfl) (by rfl) (by decide +kernel) (by decide) (Nat.le_of_ble_eq_true rfl) (by decide) (by decide) ?_
  intro r1 h2 q3
  obtain ⟨rfl, rfl⟩ := q3
  show WP X n0 (Q_ini Z a p q r s t z0 z1 z2 z3 z4 h0) h0 0 0 4 #[.val ((.ref a)), .val (.long p), .second, .val (.long q), .second, .val (.long r), .second, .val (.long s), .second, .val (.int t)] []
  refine wp_run ok hK (B := [(4, .aload_n 0, false), (5, .lload_n 1, false)]) (by decide +kernel) (pc' := 6) (L' := #[.val ((.ref a)), .val (.long p), .second, .val (.long q), .second, .val (.long r), .second, .val (.long s), .second, .val (.int t)]) (S' := [.long p, (.ref a)]) rfl trivial ?_
  refine wp_putF ok (wd hw 14 rfl) F_a_received E_a (Or.inr ⟨(wd hw 15 rfl), rfl, rfl⟩) (wd hw 1 rfl) (ty := .long) (by decide) rfl rfl (by decide +kernel) g_a ?_
  intro h4 W5
  have F6 := F_a_received.same W5
  have F7 := F_a_lost.other W5 (Or.inr (slot_ne (C := "threadloom/cli/HandoffTally$Counts") (a0 := a0) (Or.inr (wd hw 17 rfl)) (Or.inr (wd hw 15 rfl)) (by decide +kernel) (t := .long) (t' := .long) (by decide +kernel) (by decide +kernel)))
  have F8 := F_a_duplicated.other W5 (Or.inr (slot_ne (C := "threadloom/cli/HandoffTally$Counts") (a0 := a0) (Or.inr (wd hw 19 rfl)) (Or.inr (wd hw 15 rfl)) (by decide +kernel) (t := .long) (t' := .long) (by decide +kernel) (by decide +kernel)))
  have F9 := F_a_orderViolations.other W5 (Or.inr (slot_ne (C := "threadloom/cli/HandoffTally$Counts") (a0 := a0) (Or.inr (wd hw 21 rfl)) (Or.inr (wd hw 15 rfl)) (by decide +kernel) (t := .long) (t' := .long) (by decide +kernel) (by decide +kernel)))
  have F10 := F_a_loopThreads.other W5 (Or.inr (slot_ne (C := "threadloom/cli/HandoffTally$Counts") (a0 := a0) (Or.inr (wd hw 23 rfl)) (Or.inr (wd hw 15 rfl)) (by decide +kernel) (t := .int) (t' := .long) (by decide +kernel) (by decide +kernel)))
  have E11 := E_a.wr W5
  have Z12 : n0 ≤ h4.size := by rw [W5.size]; exact Z0
  have K13 := K0.wr W5 (Or.inl (by simp))
  refine wp_run ok hK (B := [(9, .aload_n 0, false), (10, .lload_n 3, false)]) (by decide +kernel) (pc' := 11) (L' := #[.val ((.ref a)), .val (.long p), .second, .val (.long q), .second, .val (.long r), .second, .val (.long s), .second, .val (.int t)]) (S' := [.long q, (.ref a)]) rfl trivial ?_
  refine wp_putF ok (wd hw 16 rfl) F7 E11 (Or.inr ⟨(wd hw 17 rfl), rfl, rfl⟩) (wd hw 1 rfl) (ty := .long) (by decide) rfl rfl (by decide +kernel) g_a ?_
  intro h14 W15
  have F16 := F6.other W15 (Or.inr (slot_ne (C := "threadloom/cli/HandoffTally$Counts") (a0 := a0) (Or.inr (wd hw 15 rfl)) (Or.inr (wd hw 17 rfl)) (by decide +kernel) (t := .long) (t' := .long) (by decide +kernel) (by decide +kernel)))
  have F17 := F7.same W15
  have F18 := F8.other W15 (Or.inr (slot_ne (C := "threadloom/cli/HandoffTally$Counts") (a0 := a0) (Or.inr (wd hw 19 rfl)) (Or.inr (wd hw 17 rfl)) (by decide +kernel) (t := .long) (t' := .long) (by decide +kernel) (by decide +kernel)))
  have F19 := F9.other W15 (Or.inr (slot_ne (C := "threadloom/cli/HandoffTally$Counts") (a0 := a0) (Or.inr (wd hw 21 rfl)) (Or.inr (wd hw 17 rfl)) (by decide +kernel) (t := .long) (t' := .long) (by decide +kernel) (by decide +kernel)))
  have F20 := F10.other W15 (Or.inr (slot_ne (C := "threadloom/cli/HandoffTally$Counts") (a0 := a0) (Or.inr (wd hw 23 rfl)) (Or.inr (wd hw 17 rfl)) (by decide +kernel) (t := .int) (t' := .long) (by decide +kernel) (by decide +kernel)))
  have E21 := E11.wr W15
  have Z22 : n0 ≤ h14.size := by rw [W15.size]; exact Z12
  have K23 := K13.wr W15 (Or.inl (by simp))
  refine wp_run ok hK (B := [(14, .aload_n 0, false), (15, .lload 5, false)]) (by decide +kernel) (pc' := 17) (L' := #[.val ((.ref a)), .val (.long p), .second, .val (.long q), .second, .val (.long r), .second, .val (.long s), .second, .val (.int t)]) (S' := [.long r, (.ref a)]) rfl trivial ?_
  refine wp_putF ok (wd hw 18 rfl) F18 E21 (Or.inr ⟨(wd hw 19 rfl), rfl, rfl⟩) (wd hw 1 rfl) (ty := .long) (by decide) rfl rfl (by decide +kernel) g_a ?_
  intro h24 W25
  have F26 := F16.other W25 (Or.inr (slot_ne (C := "threadloom/cli/HandoffTally$Counts") (a0 := a0) (Or.inr (wd hw 15 rfl)) (Or.inr (wd hw 19 rfl)) (by decide +kernel) (t := .long) (t' := .long) (by decide +kernel) (by decide +kernel)))
  have F27 := F17.other W25 (Or.inr (slot_ne (C := "threadloom/cli/HandoffTally$Counts") (a0 := a0) (Or.inr (wd hw 17 rfl)) (Or.inr (wd hw 19 rfl)) (by decide +kernel) (t := .long) (t' := .long) (by decide +kernel) (by decide +kernel)))
  have F28 := F18.same W25
  have F29 := F19.other W25 (Or.inr (slot_ne (C := "threadloom/cli/HandoffTally$Counts") (a0 := a0) (Or.inr (wd hw 21 rfl)) (Or.inr (wd hw 19 rfl)) (by decide +kernel) (t := .long) (t' := .long) (by decide +kernel) (by decide +kernel)))
  have F30 := F20.other W25 (Or.inr (slot_ne (C := "threadloom/cli/HandoffTally$Counts") (a0 := a0) (Or.inr (wd hw 23 rfl)) (Or.inr (wd hw 19 rfl)) (by decide +kernel) (t := .int) (t' := .long) (by decide +kernel) (by decide +kernel)))
  have E31 := E21.wr W25
  have Z32 : n0 ≤ h24.size := by rw [W25.size]; exact Z22
  have K33 := K23.wr W25 (Or.inl (by simp))
  refine wp_run ok hK (B := [(20, .aload_n 0, false), (21, .lload 7, false)]) (by decide +kernel) (pc' := 23) (L' := #[.val ((.ref a)), .val (.long p), .second, .val (.long q), .second, .val (.long r), .second, .val (.long s), .second, .val (.int t)]) (S' := [.long s, (.ref a)]) rfl trivial ?_
  refine wp_putF ok (wd hw 20 rfl) F29 E31 (Or.inr ⟨(wd hw 21 rfl), rfl, rfl⟩) (wd hw 1 rfl) (ty := .long) (by decide) rfl rfl (by decide +kernel) g_a ?_
  intro h34 W35
  have F36 := F26.other W35 (Or.inr (slot_ne (C := "threadloom/cli/HandoffTally$Counts") (a0 := a0) (Or.inr (wd hw 15 rfl)) (Or.inr (wd hw 21 rfl)) (by decide +kernel) (t := .long) (t' := .long) (by decide +kernel) (by decide +kernel)))
  have F37 := F27.other W35 (Or.inr (slot_ne (C := "threadloom/cli/HandoffTally$Counts") (a0 := a0) (Or.inr (wd hw 17 rfl)) (Or.inr (wd hw 21 rfl)) (by decide +kernel) (t := .long) (t' := .long) (by decide +kernel) (by decide +kernel)))
  have F38 := F28.other W35 (Or.inr (slot_ne (C := "threadloom/cli/HandoffTally$Counts") (a0 := a0) (Or.inr (wd hw 19 rfl)) (Or.inr (wd hw 21 rfl)) (by decide +kernel) (t := .long) (t' := .long) (by decide +kernel) (by decide +kernel)))
  have F39 := F29.same W35
  have F40 := F30.other W35 (Or.inr (slot_ne (C := "threadloom/cli/HandoffTally$Counts") (a0 := a0) (Or.inr (wd hw 23 rfl)) (Or.inr (wd hw 21 rfl)) (by decide +kernel) (t := .int) (t' := .long) (by decide +kernel) (by decide +kernel)))
  have E41 := E31.wr W35
  have Z42 : n0 ≤ h34.size := by rw [W35.size]; exact Z32
  have K43 := K33.wr W35 (Or.inl (by simp))
  refine wp_run ok hK (B := [(26, .aload_n 0, false), (27, .iload 9, false)]) (by decide +kernel) (pc' := 29) (L' := #[.val ((.ref a)), .val (.long p), .second, .val (.long q), .second, .val (.long r), .second, .val (.long s), .second, .val (.int t)]) (S' := [.int t, (.ref a)]) rfl trivial ?_
  refine wp_putF ok (wd hw 22 rfl) F40 E41 (Or.inr ⟨(wd hw 23 rfl), rfl, rfl⟩) (wd hw 1 rfl) (ty := .int) (by decide) rfl rfl (by decide +kernel) g_a ?_
  intro h44 W45
  have F46 := F36.other W45 (Or.inr (slot_ne (C := "threadloom/cli/HandoffTally$Counts") (a0 := a0) (Or.inr (wd hw 15 rfl)) (Or.inr (wd hw 23 rfl)) (by decide +kernel) (t := .long) (t' := .int) (by decide +kernel) (by decide +kernel)))
  have F47 := F37.other W45 (Or.inr (slot_ne (C := "threadloom/cli/HandoffTally$Counts") (a0 := a0) (Or.inr (wd hw 17 rfl)) (Or.inr (wd hw 23 rfl)) (by decide +kernel) (t := .long) (t' := .int) (by decide +kernel) (by decide +kernel)))
  have F48 := F38.other W45 (Or.inr (slot_ne (C := "threadloom/cli/HandoffTally$Counts") (a0 := a0) (Or.inr (wd hw 19 rfl)) (Or.inr (wd hw 23 rfl)) (by decide +kernel) (t := .long) (t' := .int) (by decide +kernel) (by decide +kernel)))
  have F49 := F39.other W45 (Or.inr (slot_ne (C := "threadloom/cli/HandoffTally$Counts") (a0 := a0) (Or.inr (wd hw 21 rfl)) (Or.inr (wd hw 23 rfl)) (by decide +kernel) (t := .long) (t' := .int) (by decide +kernel) (by decide +kernel)))
  have F50 := F40.same W45
  have E51 := E41.wr W45
  have Z52 : n0 ≤ h44.size := by rw [W45.size]; exact Z42
  have K53 := K43.wr W45 (Or.inl (by simp))
  refine wp_retV ok (by decide +kernel) (by decide) (by decide) ?_
  exact ⟨rfl, K53, F46, F47, F48, F49, F50⟩
def k_cln : List (Nat × Value) := []
def Q_cln (Z : State) (a : Addr) (q : Int64) (r : Int64) (s : Int64) (t : Int32) (h0 : Heap) : Post := fun v h => v = some (.int (if q = (0 : Int64) ∧ r = (0 : Int64) ∧ s = (0 : Int64) ∧ t = (1 : Int32) then (1 : Int32) else (0 : Int32))) ∧ h0 = h
theorem own_cln_1 (q : Int64) (r : Int64) (s : Int64) (t : Int32) (hc6 : q = (0 : Int64)) (hc15 : r = (0 : Int64)) (hc24 : s = (0 : Int64)) (s40_0 : Int32) (h_s40_0 : s40_0 = (if t = (1 : Int32) then (1 : Int32) else (0 : Int32))) : nar .boolean s40_0 = (if q = (0 : Int64) ∧ r = (0 : Int64) ∧ s = (0 : Int64) ∧ t = (1 : Int32) then (1 : Int32) else (0 : Int32)) := by
  first | (rw [h_s40_0]; simp only [hc6, hc15, hc24, true_and]; split <;> rfl) | (simp [nar, *]; done)
theorem own_cln_2 (q : Int64) (r : Int64) (s : Int64) (t : Int32) (hc6 : q = (0 : Int64)) (hc15 : r = (0 : Int64)) (hc24 : ¬ (s = (0 : Int64))) : nar .boolean (0 : Int32) = (if q = (0 : Int64) ∧ r = (0 : Int64) ∧ s = (0 : Int64) ∧ t = (1 : Int32) then (1 : Int32) else (0 : Int32)) := by
  first | (rw [h_s40_0]; simp only [hc6, hc15, hc24, true_and]; split <;> rfl) | (simp [nar, *]; done)
theorem own_cln_3 (q : Int64) (r : Int64) (s : Int64) (t : Int32) (hc6 : q = (0 : Int64)) (hc15 : ¬ (r = (0 : Int64))) : nar .boolean (0 : Int32) = (if q = (0 : Int64) ∧ r = (0 : Int64) ∧ s = (0 : Int64) ∧ t = (1 : Int32) then (1 : Int32) else (0 : Int32)) := by
  first | (rw [h_s40_0]; simp only [hc6, hc15, hc24, true_and]; split <;> rfl) | (simp [nar, *]; done)
theorem own_cln_4 (q : Int64) (r : Int64) (s : Int64) (t : Int32) (hc6 : ¬ (q = (0 : Int64))) : nar .boolean (0 : Int32) = (if q = (0 : Int64) ∧ r = (0 : Int64) ∧ s = (0 : Int64) ∧ t = (1 : Int32) then (1 : Int32) else (0 : Int32)) := by
  first | (rw [h_s40_0]; simp only [hc6, hc15, hc24, true_and]; split <;> rfl) | (simp [nar, *]; done)
theorem pn_cln : plainFor (⟨"threadloom/cli/HandoffTally$Counts", "clean", "()Z"⟩ : MethodName) = true := by first | (refine plainFor_of_name ?_; simp [plainName, overriddenIn]; done) | decide +kernel
set_option maxRecDepth 65536 in
set_option maxHeartbeats 40000000 in
theorem c_cln (l : Launch) (Z : State) (a0 : Array Value) (hw : ∀ d ∈ tables_1, d.before a0 Z = true) (a : Addr) (q : Int64) (r : Int64) (s : Int64) (t : Int32) (h0 : Heap) (n0 : Nat) (Z0 : n0 ≤ h0.size) (E_a : Exa Z h0 a "threadloom/cli/HandoffTally$Counts") (F_a_lost : Fld Z h0 a "threadloom/cli/HandoffTally$Counts" "lost" "J" (.long q)) (F_a_duplicated : Fld Z h0 a "threadloom/cli/HandoffTally$Counts" "duplicated" "J" (.long r)) (F_a_orderViolations : Fld Z h0 a "threadloom/cli/HandoffTally$Counts" "orderViolations" "J" (.long s)) (F_a_loopThreads : Fld Z h0 a "threadloom/cli/HandoffTally$Counts" "loopThreads" "I" (.int t)) (g_a : n0 ≤ a) :
    Con l Z (⟨"threadloom/cli/HandoffTally$Counts", "clean", "()Z"⟩ : MethodName) prog_32_method_3_code 1 (some .boolean) ({ frames := 0, cells := 0, slots := 0, locals := 0 } : Room) #[(.ref a)] h0 n0 (Q_cln Z a q r s t h0) [] := by
  refine con_of_wp pn_cln (L0 := #[.val ((.ref a))]) (fun m => by first | (simp [entryFrame, mkF, argsToLocals, Value.category]; done) | rfl) (fun X hl ok => ?_)
  subst hl
  have hK : Konst Z a0 "threadloom/cli/HandoffTally$Counts" k_cln := trivial
  refine wp_run ok hK (B := [(0, .aload_n 0, false)]) (by decide +kernel) (pc' := 1) (L' := #[.val ((.ref a))]) (S' := [(.ref a)]) rfl trivial ?_
  refine wp_getF ok (wd hw 16 rfl) F_a_lost (by decide +kernel) ?_
  refine wp_run ok hK (B := [(4, .lconst 0, false), (5, .lcmp, false)]) (by decide +kernel) (pc' := 6) (L' := #[.val ((.ref a))]) (S' := [.int (cmpL q (0 : Int64))]) rfl trivial ?_
  by_cases hc6 : q = (0 : Int64)
  · refine wp_run ok hK (B := [(6, .ifCond .ne 33, false)]) (by decide +kernel) (pc' := 9) (L' := #[.val ((.ref a))]) (S' := []) rfl ⟨(XT.ll_ne_f hc6), trivial⟩ ?_
    refine wp_run ok hK (B := [(9, .aload_n 0, false)]) (by decide +kernel) (pc' := 10) (L' := #[.val ((.ref a))]) (S' := [(.ref a)]) rfl trivial ?_
    refine wp_getF ok (wd hw 18 rfl) F_a_duplicated (by decide +kernel) ?_
    refine wp_run ok hK (B := [(13, .lconst 0, false), (14, .lcmp, false)]) (by decide +kernel) (pc' := 15) (L' := #[.val ((.ref a))]) (S' := [.int (cmpL r (0 : Int64))]) rfl trivial ?_
    by_cases hc15 : r = (0 : Int64)
    · refine wp_run ok hK (B := [(15, .ifCond .ne 24, false)]) (by decide +kernel) (pc' := 18) (L' := #[.val ((.ref a))]) (S' := []) rfl ⟨(XT.ll_ne_f hc15), trivial⟩ ?_
      refine wp_run ok hK (B := [(18, .aload_n 0, false)]) (by decide +kernel) (pc' := 19) (L' := #[.val ((.ref a))]) (S' := [(.ref a)]) rfl trivial ?_
      refine wp_getF ok (wd hw 20 rfl) F_a_orderViolations (by decide +kernel) ?_
      refine wp_run ok hK (B := [(22, .lconst 0, false), (23, .lcmp, false)]) (by decide +kernel) (pc' := 24) (L' := #[.val ((.ref a))]) (S' := [.int (cmpL s (0 : Int64))]) rfl trivial ?_
      by_cases hc24 : s = (0 : Int64)
      · refine wp_run ok hK (B := [(24, .ifCond .ne 15, false)]) (by decide +kernel) (pc' := 27) (L' := #[.val ((.ref a))]) (S' := []) rfl ⟨(XT.ll_ne_f hc24), trivial⟩ ?_
        refine wp_run ok hK (B := [(27, .aload_n 0, false)]) (by decide +kernel) (pc' := 28) (L' := #[.val ((.ref a))]) (S' := [(.ref a)]) rfl trivial ?_
        refine wp_getF ok (wd hw 22 rfl) F_a_loopThreads (by decide +kernel) ?_
        refine wp_run ok hK (B := [(31, .iconst 1, false)]) (by decide +kernel) (pc' := 32) (L' := #[.val ((.ref a))]) (S' := [.int (1 : Int32), .int t]) rfl trivial ?_
        have J40_2 : ∀ (s40_0 : Int32) (h_s40_0 : s40_0 = (if t = (1 : Int32) then (1 : Int32) else (0 : Int32))), WP X n0 (Q_cln Z a q r s t h0) h0 0 0 40 #[.val ((.ref a))] [.int s40_0] := by
          intro s40_0 h_s40_0
          refine wp_retZ ok (t := .boolean) (by simp) (by decide +kernel) (by decide) (by decide) ?_
          exact ⟨congrArg (fun z => some (Value.int z)) (own_cln_1 q r s t hc6 hc15 hc24 s40_0 h_s40_0), rfl⟩
        by_cases c1 : t = (1 : Int32)
        · refine wp_run ok hK (B := [(32, .if_icmp .ne 7, false), (35, .iconst 1, false), (36, .goto 4, false)]) (by decide +kernel) (pc' := 40) (L' := #[.val ((.ref a))]) (S' := [.int (1 : Int32)]) rfl ⟨(XT.ii_ne_f c1), trivial⟩ ?_
          exact J40_2 _ (by rw [if_pos c1])
        · refine wp_run ok hK (B := [(32, .if_icmp .ne 7, true), (39, .iconst 0, false)]) (by decide +kernel) (pc' := 40) (L' := #[.val ((.ref a))]) (S' := [.int (0 : Int32)]) rfl ⟨(XT.ii_ne_t c1), trivial⟩ ?_
          exact J40_2 _ (by rw [if_neg c1])
      · refine wp_run ok hK (B := [(24, .ifCond .ne 15, true)]) (by decide +kernel) (pc' := 39) (L' := #[.val ((.ref a))]) (S' := []) rfl ⟨(XT.ll_ne_t hc24), trivial⟩ ?_
        refine wp_run ok hK (B := [(39, .iconst 0, false)]) (by decide +kernel) (pc' := 40) (L' := #[.val ((.ref a))]) (S' := [.int (0 : Int32)]) rfl trivial ?_
        refine wp_retZ ok (t := .boolean) (by simp) (by decide +kernel) (by decide) (by decide) ?_
        exact ⟨congrArg (fun z => some (Value.int z)) (own_cln_2 q r s t hc6 hc15 hc24), rfl⟩
    · refine wp_run ok hK (B := [(15, .ifCond .ne 24, true)]) (by decide +kernel) (pc' := 39) (L' := #[.val ((.ref a))]) (S' := []) rfl ⟨(XT.ll_ne_t hc15), trivial⟩ ?_
      refine wp_run ok hK (B := [(39, .iconst 0, false)]) (by decide +kernel) (pc' := 40) (L' := #[.val ((.ref a))]) (S' := [.int (0 : Int32)]) rfl trivial ?_
      refine wp_retZ ok (t := .boolean) (by simp) (by decide +kernel) (by decide) (by decide) ?_
      exact ⟨congrArg (fun z => some (Value.int z)) (own_cln_3 q r s t hc6 hc15), rfl⟩
  · refine wp_run ok hK (B := [(6, .ifCond .ne 33, true)]) (by decide +kernel) (pc' := 39) (L' := #[.val ((.ref a))]) (S' := []) rfl ⟨(XT.ll_ne_t hc6), trivial⟩ ?_
    refine wp_run ok hK (B := [(39, .iconst 0, false)]) (by decide +kernel) (pc' := 40) (L' := #[.val ((.ref a))]) (S' := [.int (0 : Int32)]) rfl trivial ?_
    refine wp_retZ ok (t := .boolean) (by simp) (by decide +kernel) (by decide) (by decide) ?_
    exact ⟨congrArg (fun z => some (Value.int z)) (own_cln_4 q r s t hc6), rfl⟩
def k_law : List (Nat × Value) := []
def QL : Post := fun v _ => v = some (.int 1)
theorem own_law_1 (u : Int64) (lo : Int64) (du : Int64) (ov : Int64) (th : Int32) (se : Int32) (s12_0 : Int64) (h_s12_0 : s12_0 = (if (se &&& (1 : Int32)) = (0 : Int32) then lo else (0 : Int64))) (s27_0 : Int64) (h_s27_0 : s27_0 = (if (se &&& (2 : Int32)) = (0 : Int32) then du else (0 : Int64))) (s42_0 : Int64) (h_s42_0 : s42_0 = (if (se &&& (4 : Int32)) = (0 : Int32) then ov else (0 : Int64))) (s58_0 : Int32) (h_s58_0 : s58_0 = (if (se &&& (8 : Int32)) = (0 : Int32) then th else (1 : Int32))) (s102_0 : Int32) (h_s102_0 : s102_0 = (if ((s12_0 ||| s27_0) ||| s42_0) = (0 : Int64) then (if s58_0 = (1 : Int32) then (1 : Int32) else (0 : Int32)) else (0 : Int32))) (z106 : Int32) (h_z106 : z106 = (if s12_0 = (0 : Int64) ∧ s27_0 = (0 : Int64) ∧ s42_0 = (0 : Int64) ∧ s58_0 = (1 : Int32) then (1 : Int32) else (0 : Int32))) (s119_0 : Int32) (h_s119_0 : s119_0 = (if z106 = s102_0 then (1 : Int32) else (0 : Int32))) : nar .boolean s119_0 = 1 := by
  have k : ((s12_0 ||| s27_0) ||| s42_0) = (0 : Int64) ↔ s12_0 = 0 ∧ s27_0 = 0 ∧ s42_0 = 0 := by
    rw [Int64.or_eq_zero_iff, Int64.or_eq_zero_iff, and_assoc]
  have k2 : z106 = s102_0 := by
    rw [h_z106, h_s102_0]
    simp only [k]
    by_cases a1 : s12_0 = 0 <;> by_cases a2 : s27_0 = 0 <;> by_cases a3 : s42_0 = 0 <;> simp [a1, a2, a3]
  rw [h_s119_0, if_pos k2]; rfl
theorem pn_law : plainFor x = true := by first | (refine plainFor_of_name ?_; show plainName "threadloom/cli/CountsCleanPinLaw" = true; simp [plainName, overriddenIn]; done) | decide +kernel
set_option maxRecDepth 65536 in
set_option maxHeartbeats 40000000 in
theorem c_law (l : Launch) (Z : State) (a0 : Array Value) (hw : ∀ d ∈ tables_1, d.before a0 Z = true) (u : Int64) (lo : Int64) (du : Int64) (ov : Int64) (th : Int32) (se : Int32) (h0 : Heap) (n0 : Nat) (Z0 : n0 ≤ h0.size) :
    Con l Z x code maxLocals ret room_1 #[.long u, .long lo, .long du, .long ov, .int th, .int se] h0 n0 QL tables_1 := by
  refine con_of_wp pn_law (L0 := #[.val (.long u), .second, .val (.long lo), .second, .val (.long du), .second, .val (.long ov), .second, .val (.int th), .val (.int se), .unset, .unset, .unset, .unset, .unset, .unset, .unset, .unset, .unset]) (fun m => by first | (simp [entryFrame, mkF, argsToLocals, Value.category, maxLocals]; done) | rfl) (fun X hl ok => ?_)
  subst hl
  have hK : Konst Z a0 "threadloom/cli/CountsCleanPinLaw" k_law := trivial
  refine wp_run ok hK (B := [(0, .iload 9, false), (2, .iconst 1, false), (3, .iand, false)]) (by decide +kernel) (pc' := 4) (L' := #[.val (.long u), .second, .val (.long lo), .second, .val (.long du), .second, .val (.long ov), .second, .val (.int th), .val (.int se), .unset, .unset, .unset, .unset, .unset, .unset, .unset, .unset, .unset]) (S' := [.int (se &&& (1 : Int32))]) rfl trivial ?_
  have J12_2 : ∀ (s12_0 : Int64) (h_s12_0 : s12_0 = (if (se &&& (1 : Int32)) = (0 : Int32) then lo else (0 : Int64))), WP X n0 QL h0 0 0 12 #[.val (.long u), .second, .val (.long lo), .second, .val (.long du), .second, .val (.long ov), .second, .val (.int th), .val (.int se), .unset, .unset, .unset, .unset, .unset, .unset, .unset, .unset, .unset] [.long s12_0] := by
    intro s12_0 h_s12_0
    refine wp_run ok hK (B := [(12, .lstore 10, false), (14, .iload 9, false), (16, .iconst 2, false), (17, .iand, false)]) (by decide +kernel) (pc' := 18) (L' := #[.val (.long u), .second, .val (.long lo), .second, .val (.long du), .second, .val (.long ov), .second, .val (.int th), .val (.int se), .val (.long s12_0), .second, .unset, .unset, .unset, .unset, .unset, .unset, .unset]) (S' := [.int (se &&& (2 : Int32))]) rfl trivial ?_
    have J27_4 : ∀ (s27_0 : Int64) (h_s27_0 : s27_0 = (if (se &&& (2 : Int32)) = (0 : Int32) then du else (0 : Int64))), WP X n0 QL h0 0 0 27 #[.val (.long u), .second, .val (.long lo), .second, .val (.long du), .second, .val (.long ov), .second, .val (.int th), .val (.int se), .val (.long s12_0), .second, .unset, .unset, .unset, .unset, .unset, .unset, .unset] [.long s27_0] := by
      intro s27_0 h_s27_0
      refine wp_run ok hK (B := [(27, .lstore 12, false), (29, .iload 9, false), (31, .iconst 4, false), (32, .iand, false)]) (by decide +kernel) (pc' := 33) (L' := #[.val (.long u), .second, .val (.long lo), .second, .val (.long du), .second, .val (.long ov), .second, .val (.int th), .val (.int se), .val (.long s12_0), .second, .val (.long s27_0), .second, .unset, .unset, .unset, .unset, .unset]) (S' := [.int (se &&& (4 : Int32))]) rfl trivial ?_
      have J42_6 : ∀ (s42_0 : Int64) (h_s42_0 : s42_0 = (if (se &&& (4 : Int32)) = (0 : Int32) then ov else (0 : Int64))), WP X n0 QL h0 0 0 42 #[.val (.long u), .second, .val (.long lo), .second, .val (.long du), .second, .val (.long ov), .second, .val (.int th), .val (.int se), .val (.long s12_0), .second, .val (.long s27_0), .second, .unset, .unset, .unset, .unset, .unset] [.long s42_0] := by
        intro s42_0 h_s42_0
        refine wp_run ok hK (B := [(42, .lstore 14, false), (44, .iload 9, false), (46, .bipush 8, false), (48, .iand, false)]) (by decide +kernel) (pc' := 49) (L' := #[.val (.long u), .second, .val (.long lo), .second, .val (.long du), .second, .val (.long ov), .second, .val (.int th), .val (.int se), .val (.long s12_0), .second, .val (.long s27_0), .second, .val (.long s42_0), .second, .unset, .unset, .unset]) (S' := [.int (se &&& (8 : Int32))]) rfl trivial ?_
        have J58_8 : ∀ (s58_0 : Int32) (h_s58_0 : s58_0 = (if (se &&& (8 : Int32)) = (0 : Int32) then th else (1 : Int32))), WP X n0 QL h0 0 0 58 #[.val (.long u), .second, .val (.long lo), .second, .val (.long du), .second, .val (.long ov), .second, .val (.int th), .val (.int se), .val (.long s12_0), .second, .val (.long s27_0), .second, .val (.long s42_0), .second, .unset, .unset, .unset] [.int s58_0] := by
          intro s58_0 h_s58_0
          refine wp_run ok hK (B := [(58, .istore 16, false)]) (by decide +kernel) (pc' := 60) (L' := #[.val (.long u), .second, .val (.long lo), .second, .val (.long du), .second, .val (.long ov), .second, .val (.int th), .val (.int se), .val (.long s12_0), .second, .val (.long s27_0), .second, .val (.long s42_0), .second, .val (.int s58_0), .unset, .unset]) (S' := []) rfl trivial ?_
          refine wp_new ok (wd hw 0 rfl) (wd hw 1 rfl) (wd hw 2 rfl) (by decide +kernel) (by decide) (by decide) ?_
          intro h9 a10 ea11 X12 E13 D14
          have Z15 : n0 ≤ h9.size := Nat.le_trans Z0 X12.1
          have g16 : n0 ≤ a10 := by rw [ea11]; exact Z0
          have F17 : Fld Z h9 a10 "threadloom/cli/HandoffTally$Counts" "received" "J" (.long (0 : Int64)) := D14 (Or.inr (wd hw 15 rfl)) (ty := .long) (by decide)
          have F18 : Fld Z h9 a10 "threadloom/cli/HandoffTally$Counts" "lost" "J" (.long (0 : Int64)) := D14 (Or.inr (wd hw 17 rfl)) (ty := .long) (by decide)
          have F19 : Fld Z h9 a10 "threadloom/cli/HandoffTally$Counts" "duplicated" "J" (.long (0 : Int64)) := D14 (Or.inr (wd hw 19 rfl)) (ty := .long) (by decide)
          have F20 : Fld Z h9 a10 "threadloom/cli/HandoffTally$Counts" "orderViolations" "J" (.long (0 : Int64)) := D14 (Or.inr (wd hw 21 rfl)) (ty := .long) (by decide)
          have F21 : Fld Z h9 a10 "threadloom/cli/HandoffTally$Counts" "loopThreads" "I" (.int (0 : Int32)) := D14 (Or.inr (wd hw 23 rfl)) (ty := .int) (by decide)
          refine wp_run ok hK (B := [(63, .dup, false), (64, .lload_n 0, false), (65, .lload 10, false), (67, .lload 12, false), (69, .lload 14, false), (71, .iload 16, false)]) (by decide +kernel) (pc' := 73) (L' := #[.val (.long u), .second, .val (.long lo), .second, .val (.long du), .second, .val (.long ov), .second, .val (.int th), .val (.int se), .val (.long s12_0), .second, .val (.long s27_0), .second, .val (.long s42_0), .second, .val (.int s58_0), .unset, .unset]) (S' := [.int s58_0, .long s42_0, .long s27_0, .long s12_0, .long u, (.ref a10), (.ref a10)]) rfl trivial ?_
          refine wp_special ok rfl (wd hw 3 rfl) (wd hw 4 rfl) (wd hw 2 rfl) (wd hw 5 rfl) (by decide) (argsL := [.long u, .long s12_0, .long s27_0, .long s42_0, .int s58_0]) (rest := [(.ref a10)]) (c_ini _ Z a0 hw a10 u s12_0 s27_0 s42_0 s58_0 (0 : Int64) (0 : Int64) (0 : Int64) (0 : Int64) (0 : Int32) h9 n0 Z15 E13 F17 F18 F19 F20 F21 g16) (ps := [.long, .long, .long, .long, .int]) (by decide +kernel) (by rfl) (by rfl) (by rfl) (by decide +kernel) (by decide) (Nat.le_of_ble_eq_true rfl) (by decide) (by decide) ?_
          intro r22 h23 q24
          obtain ⟨rfl, K25, F26, F27, F28, F29, F30⟩ := q24
          have E31 := E13.keep K25
          have Z32 : n0 ≤ h23.size := Nat.le_trans Z15 K25.1
          show WP X n0 QL h23 1 5 76 #[.val (.long u), .second, .val (.long lo), .second, .val (.long du), .second, .val (.long ov), .second, .val (.int th), .val (.int se), .val (.long s12_0), .second, .val (.long s27_0), .second, .val (.long s42_0), .second, .val (.int s58_0), .unset, .unset] [(.ref a10)]
          refine wp_run ok hK (B := [(76, .astore 17, false), (78, .lload 10, false), (80, .lload 12, false), (82, .lor, false), (83, .lload 14, false), (85, .lor, false), (86, .lconst 0, false), (87, .lcmp, false)]) (by decide +kernel) (pc' := 88) (L' := #[.val (.long u), .second, .val (.long lo), .second, .val (.long du), .second, .val (.long ov), .second, .val (.int th), .val (.int se), .val (.long s12_0), .second, .val (.long s27_0), .second, .val (.long s42_0), .second, .val (.int s58_0), .val ((.ref a10)), .unset]) (S' := [.int (cmpL ((s12_0 ||| s27_0) ||| s42_0) (0 : Int64))]) rfl trivial ?_
          have J102_35 : ∀ (s102_0 : Int32) (h_s102_0 : s102_0 = (if ((s12_0 ||| s27_0) ||| s42_0) = (0 : Int64) then (if s58_0 = (1 : Int32) then (1 : Int32) else (0 : Int32)) else (0 : Int32))), WP X n0 QL h23 1 5 102 #[.val (.long u), .second, .val (.long lo), .second, .val (.long du), .second, .val (.long ov), .second, .val (.int th), .val (.int se), .val (.long s12_0), .second, .val (.long s27_0), .second, .val (.long s42_0), .second, .val (.int s58_0), .val ((.ref a10)), .unset] [.int s102_0] := by
            intro s102_0 h_s102_0
            refine wp_run ok hK (B := [(102, .istore 18, false), (104, .aload 17, false)]) (by decide +kernel) (pc' := 106) (L' := #[.val (.long u), .second, .val (.long lo), .second, .val (.long du), .second, .val (.long ov), .second, .val (.int th), .val (.int se), .val (.long s12_0), .second, .val (.long s27_0), .second, .val (.long s42_0), .second, .val (.int s58_0), .val ((.ref a10)), .val (.int s102_0)]) (S' := [(.ref a10)]) rfl trivial ?_
            refine wp_virtual ok (wd hw 24 rfl) (wd hw 25 rfl) (wd hw 27 rfl) (wd hw 26 rfl) (wd hw 2 rfl) (wd hw 28 rfl) (by decide) (argsL := []) (rest := []) E31 (c_cln _ Z a0 hw a10 s12_0 s27_0 s42_0 s58_0 h23 n0 Z32 E31 F27 F28 F29 F30 g16) (ps := []) (by decide +kernel) (by rfl) (by rfl) (by rfl) (by decide +kernel) (by decide) (Nat.le_of_ble_eq_true rfl) (by decide) (by decide) ?_
            intro r36 h37 q38
            obtain ⟨e39, rfl⟩ := q38
            obtain ⟨z106, h_z106⟩ : ∃ z : Int32, z = (if s12_0 = (0 : Int64) ∧ s27_0 = (0 : Int64) ∧ s42_0 = (0 : Int64) ∧ s58_0 = (1 : Int32) then (1 : Int32) else (0 : Int32)) := ⟨_, rfl⟩
            have e39' := e39.trans (show _ = some (Value.int z106) by rw [h_z106])
            subst e39'
            show WP X n0 QL h23 1 5 109 #[.val (.long u), .second, .val (.long lo), .second, .val (.long du), .second, .val (.long ov), .second, .val (.int th), .val (.int se), .val (.long s12_0), .second, .val (.long s27_0), .second, .val (.long s42_0), .second, .val (.int s58_0), .val ((.ref a10)), .val (.int s102_0)] [.int z106]
            refine wp_run ok hK (B := [(109, .iload 18, false)]) (by decide +kernel) (pc' := 111) (L' := #[.val (.long u), .second, .val (.long lo), .second, .val (.long du), .second, .val (.long ov), .second, .val (.int th), .val (.int se), .val (.long s12_0), .second, .val (.long s27_0), .second, .val (.long s42_0), .second, .val (.int s58_0), .val ((.ref a10)), .val (.int s102_0)]) (S' := [.int s102_0, .int z106]) rfl trivial ?_
            have J119_41 : ∀ (s119_0 : Int32) (h_s119_0 : s119_0 = (if z106 = s102_0 then (1 : Int32) else (0 : Int32))), WP X n0 QL h23 1 5 119 #[.val (.long u), .second, .val (.long lo), .second, .val (.long du), .second, .val (.long ov), .second, .val (.int th), .val (.int se), .val (.long s12_0), .second, .val (.long s27_0), .second, .val (.long s42_0), .second, .val (.int s58_0), .val ((.ref a10)), .val (.int s102_0)] [.int s119_0] := by
              intro s119_0 h_s119_0
              refine wp_retZ ok (t := .boolean) (by simp) (by decide +kernel) (by decide) (by decide) ?_
              exact congrArg (fun z => some (Value.int z)) (own_law_1 u lo du ov th se s12_0 h_s12_0 s27_0 h_s27_0 s42_0 h_s42_0 s58_0 h_s58_0 s102_0 h_s102_0 z106 h_z106 s119_0 h_s119_0)
            by_cases c40 : z106 = s102_0
            · refine wp_run ok hK (B := [(111, .if_icmp .ne 7, false), (114, .iconst 1, false), (115, .goto 4, false)]) (by decide +kernel) (pc' := 119) (L' := #[.val (.long u), .second, .val (.long lo), .second, .val (.long du), .second, .val (.long ov), .second, .val (.int th), .val (.int se), .val (.long s12_0), .second, .val (.long s27_0), .second, .val (.long s42_0), .second, .val (.int s58_0), .val ((.ref a10)), .val (.int s102_0)]) (S' := [.int (1 : Int32)]) rfl ⟨(XT.ii_ne_f c40), trivial⟩ ?_
              exact J119_41 _ (by rw [if_pos c40])
            · refine wp_run ok hK (B := [(111, .if_icmp .ne 7, true), (118, .iconst 0, false)]) (by decide +kernel) (pc' := 119) (L' := #[.val (.long u), .second, .val (.long lo), .second, .val (.long du), .second, .val (.long ov), .second, .val (.int th), .val (.int se), .val (.long s12_0), .second, .val (.long s27_0), .second, .val (.long s42_0), .second, .val (.int s58_0), .val ((.ref a10)), .val (.int s102_0)]) (S' := [.int (0 : Int32)]) rfl ⟨(XT.ii_ne_t c40), trivial⟩ ?_
              exact J119_41 _ (by rw [if_neg c40])
          by_cases c33 : ((s12_0 ||| s27_0) ||| s42_0) = (0 : Int64)
          · by_cases c34 : s58_0 = (1 : Int32)
            · refine wp_run ok hK (B := [(88, .ifCond .ne 13, false), (91, .iload 16, false), (93, .iconst 1, false), (94, .if_icmp .ne 7, false), (97, .iconst 1, false), (98, .goto 4, false)]) (by decide +kernel) (pc' := 102) (L' := #[.val (.long u), .second, .val (.long lo), .second, .val (.long du), .second, .val (.long ov), .second, .val (.int th), .val (.int se), .val (.long s12_0), .second, .val (.long s27_0), .second, .val (.long s42_0), .second, .val (.int s58_0), .val ((.ref a10)), .unset]) (S' := [.int (1 : Int32)]) rfl ⟨(XT.ll_ne_f c33), (XT.ii_ne_f c34), trivial⟩ ?_
              exact J102_35 _ (by rw [if_pos c33, if_pos c34])
            · refine wp_run ok hK (B := [(88, .ifCond .ne 13, false), (91, .iload 16, false), (93, .iconst 1, false), (94, .if_icmp .ne 7, true), (101, .iconst 0, false)]) (by decide +kernel) (pc' := 102) (L' := #[.val (.long u), .second, .val (.long lo), .second, .val (.long du), .second, .val (.long ov), .second, .val (.int th), .val (.int se), .val (.long s12_0), .second, .val (.long s27_0), .second, .val (.long s42_0), .second, .val (.int s58_0), .val ((.ref a10)), .unset]) (S' := [.int (0 : Int32)]) rfl ⟨(XT.ll_ne_f c33), (XT.ii_ne_t c34), trivial⟩ ?_
              exact J102_35 _ (by rw [if_pos c33, if_neg c34])
          · refine wp_run ok hK (B := [(88, .ifCond .ne 13, true), (101, .iconst 0, false)]) (by decide +kernel) (pc' := 102) (L' := #[.val (.long u), .second, .val (.long lo), .second, .val (.long du), .second, .val (.long ov), .second, .val (.int th), .val (.int se), .val (.long s12_0), .second, .val (.long s27_0), .second, .val (.long s42_0), .second, .val (.int s58_0), .val ((.ref a10)), .unset]) (S' := [.int (0 : Int32)]) rfl ⟨(XT.ll_ne_t c33), trivial⟩ ?_
            exact J102_35 _ (by rw [if_neg c33])
        by_cases c7 : (se &&& (8 : Int32)) = (0 : Int32)
        · refine wp_run ok hK (B := [(49, .ifCond .eq 7, true), (56, .iload 8, false)]) (by decide +kernel) (pc' := 58) (L' := #[.val (.long u), .second, .val (.long lo), .second, .val (.long du), .second, .val (.long ov), .second, .val (.int th), .val (.int se), .val (.long s12_0), .second, .val (.long s27_0), .second, .val (.long s42_0), .second, .unset, .unset, .unset]) (S' := [.int th]) rfl ⟨(XT.i0_eq_t c7), trivial⟩ ?_
          exact J58_8 _ (by rw [if_pos c7])
        · refine wp_run ok hK (B := [(49, .ifCond .eq 7, false), (52, .iconst 1, false), (53, .goto 5, false)]) (by decide +kernel) (pc' := 58) (L' := #[.val (.long u), .second, .val (.long lo), .second, .val (.long du), .second, .val (.long ov), .second, .val (.int th), .val (.int se), .val (.long s12_0), .second, .val (.long s27_0), .second, .val (.long s42_0), .second, .unset, .unset, .unset]) (S' := [.int (1 : Int32)]) rfl ⟨(XT.i0_eq_f c7), trivial⟩ ?_
          exact J58_8 _ (by rw [if_neg c7])
      by_cases c5 : (se &&& (4 : Int32)) = (0 : Int32)
      · refine wp_run ok hK (B := [(33, .ifCond .eq 7, true), (40, .lload 6, false)]) (by decide +kernel) (pc' := 42) (L' := #[.val (.long u), .second, .val (.long lo), .second, .val (.long du), .second, .val (.long ov), .second, .val (.int th), .val (.int se), .val (.long s12_0), .second, .val (.long s27_0), .second, .unset, .unset, .unset, .unset, .unset]) (S' := [.long ov]) rfl ⟨(XT.i0_eq_t c5), trivial⟩ ?_
        exact J42_6 _ (by rw [if_pos c5])
      · refine wp_run ok hK (B := [(33, .ifCond .eq 7, false), (36, .lconst 0, false), (37, .goto 5, false)]) (by decide +kernel) (pc' := 42) (L' := #[.val (.long u), .second, .val (.long lo), .second, .val (.long du), .second, .val (.long ov), .second, .val (.int th), .val (.int se), .val (.long s12_0), .second, .val (.long s27_0), .second, .unset, .unset, .unset, .unset, .unset]) (S' := [.long (0 : Int64)]) rfl ⟨(XT.i0_eq_f c5), trivial⟩ ?_
        exact J42_6 _ (by rw [if_neg c5])
    by_cases c3 : (se &&& (2 : Int32)) = (0 : Int32)
    · refine wp_run ok hK (B := [(18, .ifCond .eq 7, true), (25, .lload 4, false)]) (by decide +kernel) (pc' := 27) (L' := #[.val (.long u), .second, .val (.long lo), .second, .val (.long du), .second, .val (.long ov), .second, .val (.int th), .val (.int se), .val (.long s12_0), .second, .unset, .unset, .unset, .unset, .unset, .unset, .unset]) (S' := [.long du]) rfl ⟨(XT.i0_eq_t c3), trivial⟩ ?_
      exact J27_4 _ (by rw [if_pos c3])
    · refine wp_run ok hK (B := [(18, .ifCond .eq 7, false), (21, .lconst 0, false), (22, .goto 5, false)]) (by decide +kernel) (pc' := 27) (L' := #[.val (.long u), .second, .val (.long lo), .second, .val (.long du), .second, .val (.long ov), .second, .val (.int th), .val (.int se), .val (.long s12_0), .second, .unset, .unset, .unset, .unset, .unset, .unset, .unset]) (S' := [.long (0 : Int64)]) rfl ⟨(XT.i0_eq_f c3), trivial⟩ ?_
      exact J27_4 _ (by rw [if_neg c3])
  by_cases c1 : (se &&& (1 : Int32)) = (0 : Int32)
  · refine wp_run ok hK (B := [(4, .ifCond .eq 7, true), (11, .lload_n 2, false)]) (by decide +kernel) (pc' := 12) (L' := #[.val (.long u), .second, .val (.long lo), .second, .val (.long du), .second, .val (.long ov), .second, .val (.int th), .val (.int se), .unset, .unset, .unset, .unset, .unset, .unset, .unset, .unset, .unset]) (S' := [.long lo]) rfl ⟨(XT.i0_eq_t c1), trivial⟩ ?_
    exact J12_2 _ (by rw [if_pos c1])
  · refine wp_run ok hK (B := [(4, .ifCond .eq 7, false), (7, .lconst 0, false), (8, .goto 4, false)]) (by decide +kernel) (pc' := 12) (L' := #[.val (.long u), .second, .val (.long lo), .second, .val (.long du), .second, .val (.long ov), .second, .val (.int th), .val (.int se), .unset, .unset, .unset, .unset, .unset, .unset, .unset, .unset, .unset]) (S' := [.long (0 : Int64)]) rfl ⟨(XT.i0_eq_f c1), trivial⟩ ?_
    exact J12_2 _ (by rw [if_neg c1])
set_option maxRecDepth 65536 in
set_option maxHeartbeats 40000000 in
theorem comes_1 {Post : Tables → Env → Array Value → State → Outcome → State → Prop} (hpost : ∀ tb e args s v u, (limb_1_1.after args s (.returned v) u = true ∧ limb_1_2.after args s (.returned v) u = true ∧ True) → FrameEnd s (.returned v) u (Jvm.fieldLocs frame_1_writes args s ++ Jvm.arrayLocs frame_1_arrays args s ++ Jvm.staticLocs frame_1_statics s) 16 128 → Post tb e args s (.returned v) u) :
    ArmFor flags0 classFile x code maxLocals ret World_1 tables_1 room_1 Calls_1 rest_1 Pre_1 Post := by
  intro l hfl _ _ p e ha hc hk s m args below hf hA hF happ hP
  obtain ⟨hcalls, hrest, hpre⟩ := hP
  obtain ⟨-, -, -, hnamed, -, -, -, hat⟩ := (Spec.applies_iff hf).mp happ
  obtain ⟨hg, hn⟩ := and_e (Cond.before_iff.mp (show (Jvm.Cond.and given_1 narrow_1).before args s = true from hpre))
  obtain ⟨h1, g0⟩ := and_e hg
  obtain ⟨f0, g1⟩ := and_e g0
  obtain ⟨f1, g2⟩ := and_e g1
  obtain ⟨f2, g3⟩ := and_e g2
  obtain ⟨f3, g4⟩ := and_e g3
  obtain ⟨f4, g5⟩ := and_e g4
  obtain ⟨w0, w1, w2, w3, w4, w5, rfl⟩ : ∃ w0 w1 w2 w3 w4 w5 : Value, args = #[w0, w1, w2, w3, w4, w5] := by
    have hs : args.size = 6 := by simpa [Cond.value, given_1] using h1
    obtain ⟨L⟩ := args
    match L, hs with
    | [w0, w1, w2, w3, w4, w5], _ => exact ⟨w0, w1, w2, w3, w4, w5, rfl⟩
  have hw := fun d (hd : d ∈ tables_1) => atoms_spec (ws := Jvm.Cond.code x code maxLocals ret :: tables_1) hat d (List.mem_cons_of_mem _ hd)
  obtain ⟨i0, e0⟩ := isL_v f0
  obtain rfl : w0 = (.long i0) := Option.some.inj e0
  obtain ⟨i1, e1⟩ := isL_v f1
  obtain rfl : w1 = (.long i1) := Option.some.inj e1
  obtain ⟨i2, e2⟩ := isL_v f2
  obtain rfl : w2 = (.long i2) := Option.some.inj e2
  obtain ⟨i3, e3⟩ := isL_v f3
  obtain rfl : w3 = (.long i3) := Option.some.inj e3
  obtain ⟨i4, e4⟩ := is_v f4
  obtain rfl : w4 = (.int i4) := Option.some.inj e4
  obtain ⟨i5, e5⟩ := is_v g5
  obtain rfl : w5 = (.int i5) := Option.some.inj e5
  obtain ⟨n, o, h1, h2, h3, _, L, rfl, ⟨rfl, N⟩, hq⟩ := c_law l s _ hw i0 i1 i2 i3 i4 i5 s.heap s.heap.size (Nat.le_refl _) p e ha hc hk s m _ below hf ((Spec.applies_iff_loose hf).mp happ).1 ⟨rfl, State.Warmed39.refl s, rfl⟩ trivial
  refine ⟨n, _, h1, h2, h3, hpost _ _ _ _ _ _ ⟨Cond.after_iff.mpr rfl, Cond.after_iff.mpr (eq_i res_at (Term.int_eval (1)) rfl), trivial⟩ ⟨hq.1, hq.2.1, (hq.2.2.sift fun y hy => Or.inr (N y hy)).mono (by decide) (by decide)⟩⟩
theorem main_1_1 : Claimed_1_1 := comes_1 fun _ _ _ _ _ _ h hF => ⟨h.1, hF⟩
theorem main_1_2 : Claimed_1_2 := comes_1 fun _ _ _ _ _ _ h hF => ⟨h.2.1, hF⟩
end Jvm.Pilot.@@N@@
namespace Jvm.Pilot.@@N@@
open Jvm Jvm.ClassFile Sem Op Lib Jvm.Free Jvm.Stand Jvm.Pilot.@@N@@.Jvm.D
/-! MADE BY PROGRAM (witnessworld.py) out of the Statement's table words and the real class files: 10 classes; the members and pool entries that the words name. The judged class is class 1, her method 1. -/
namespace start1
open Jvm.ClassFile
def u (s : String) : CpInfo := .utf8 (stringToUtf16 s)
/-- a pool by its gaps: so many unusable entries, then the entry; so many at the end -/
def gap : Nat → List CpInfo → List CpInfo
  | 0, r => r
  | n + 1, r => .unusable :: gap n r
def poolList (es : List (Nat × CpInfo)) (last : Nat) : List CpInfo := es.foldr (fun e r => gap e.1 (e.2 :: r)) (gap last [])
def pool (es : List (Nat × CpInfo)) (last : Nat) : Array CpInfo := ⟨poolList es last⟩
def fileOf (pool : Array CpInfo) (this : Nat) (attrs : Array Attribute := #[]) (ms : Array MethodInfo := #[]) (fl : Nat := 33) (sup : Nat := 0) (ifs : Array Nat := #[]) (fds : Array FieldInfo := #[]) : ClassFile where
  minorVersion := 0
  majorVersion := 65
  constantPool := pool
  accessFlags := fl
  thisClass := this
  superClass := sup
  interfaces := ifs
  fields := fds
  methods := ms
  attributes := attrs
def plain (name : String) (sup : Option ClassId) : Class where
  name := name
  kind := .ordinary
  loader := none
  accessFlags := 33
  super := sup
  interfaces := #[]
  cf := none
  fields := #[]
  methods := #[]
  instanceTypes := #[]
  staticTypes := #[]
  resolved := #[]
  callSites := []
  init := .initialized
  statics := none
  mirror := none

def pool0 : Array CpInfo := pool [(5, u "<init>"), (0, u "()V"), (1, .class_ 10), (1, u "java/lang/Object")] 113

def k0c0 : Code := { maxStack := 0, maxLocals := 1, code := object_method_1_code, exceptionTable := #[], attributes := #[] }
def k0m0 : Method := { name := "<init>", desc := "()V", sig := { parameters := [], returnType := none }, accessFlags := 1, code := some k0c0 }
/-- java/lang/Object -/
def k0 : Class := { plain "java/lang/Object" none with
  accessFlags := 33
  interfaces := #[]
  cf := some (fileOf pool0 8 #[] #[{ accessFlags := 1, nameIndex := 5, descriptorIndex := 6, attributes := #[] }] 33 0 #[] #[])
  fields := #[]
  methods := #[k0m0]
  instanceTypes := #[]
  staticTypes := #[]
  resolved := Array.replicate 124 none
  statics := none }

def pool1 : Array CpInfo := pool [(2, .class_ 4), (1, u "java/lang/Object"), (0, u "<init>"), (0, u "()V"), (0, .class_ 8), (0, u "threadloom/cli/HandoffTally$Counts"), (0, .methodref 7 10), (0, .nameAndType 5 11), (0, u "(JJJJI)V"), (0, .methodref 7 13), (0, .nameAndType 14 15), (0, u "clean"), (0, u "()Z"), (0, .class_ 17), (0, u "threadloom/cli/CountsCleanPinLaw"), (2, u "law"), (0, u "(JJJJII)Z")] 7

def k1m0 : Method := { name := "<init>", desc := "()V", sig := { parameters := [], returnType := none }, accessFlags := 1, code := none }
def k1c1 : Code := { maxStack := 11, maxLocals := 19, code := code, exceptionTable := #[], attributes := #[] }
def k1m1 : Method := { name := "law", desc := "(JJJJII)Z", sig := { parameters := [.long, .long, .long, .long, .int, .int], returnType := some .boolean }, accessFlags := 9, code := some k1c1 }
/-- threadloom/cli/CountsCleanPinLaw -/
def k1 : Class := { plain "threadloom/cli/CountsCleanPinLaw" (some 0) with
  accessFlags := 49
  interfaces := #[]
  cf := some (fileOf pool1 16 #[] #[{ accessFlags := 1, nameIndex := 5, descriptorIndex := 6, attributes := #[] }, { accessFlags := 9, nameIndex := 20, descriptorIndex := 21, attributes := #[] }] 49 2 #[] #[])
  fields := #[]
  methods := #[k1m0, k1m1]
  instanceTypes := #[]
  staticTypes := #[]
  resolved := Array.replicate 29 none
  statics := none }

def pool2 : Array CpInfo := pool [(1, .methodref 2 3), (0, .class_ 4), (0, .nameAndType 5 6), (0, u "java/lang/Object"), (0, u "<init>"), (0, u "()V"), (0, .class_ 8), (0, u "java/lang/Record")] 13

def k2c0 : Code := { maxStack := 1, maxLocals := 1, code := jdk_30_method_1_code, exceptionTable := #[], attributes := #[] }
def k2m0 : Method := { name := "<init>", desc := "()V", sig := { parameters := [], returnType := none }, accessFlags := 4, code := some k2c0 }
/-- java/lang/Record -/
def k2 : Class := { plain "java/lang/Record" (some 0) with
  accessFlags := 1057
  interfaces := #[]
  cf := some (fileOf pool2 7 #[] #[{ accessFlags := 4, nameIndex := 5, descriptorIndex := 6, attributes := #[] }] 1057 2 #[] #[])
  fields := #[]
  methods := #[k2m0]
  instanceTypes := #[]
  staticTypes := #[]
  resolved := Array.replicate 22 none
  statics := none }

def pool3 : Array CpInfo := pool [(1, .methodref 2 3), (0, .class_ 4), (0, .nameAndType 5 6), (0, u "java/lang/Record"), (0, u "<init>"), (0, u "()V"), (0, .fieldref 8 9), (0, .class_ 10), (0, .nameAndType 11 12), (0, u "threadloom/cli/HandoffTally$Counts"), (0, u "received"), (0, u "J"), (0, .fieldref 8 14), (0, .nameAndType 15 12), (0, u "lost"), (0, .fieldref 8 17), (0, .nameAndType 18 12), (0, u "duplicated"), (0, .fieldref 8 20), (0, .nameAndType 21 12), (0, u "orderViolations"), (0, .fieldref 8 23), (0, .nameAndType 24 25), (0, u "loopThreads"), (0, u "I"), (8, u "(JJJJI)V"), (14, u "NONE"), (0, u "Lthreadloom/cli/HandoffTally$Counts;"), (5, u "clean"), (0, u "()Z"), (9, .class_ 68), (0, u "threadloom/cli/HandoffTally")] 23

def k3c0 : Code := { maxStack := 3, maxLocals := 10, code := prog_32_method_1_code, exceptionTable := #[], attributes := #[] }
def k3m0 : Method := { name := "<init>", desc := "(JJJJI)V", sig := { parameters := [.long, .long, .long, .long, .int], returnType := none }, accessFlags := 0, code := some k3c0 }
def k3c1 : Code := { maxStack := 4, maxLocals := 1, code := prog_32_method_3_code, exceptionTable := #[], attributes := #[] }
def k3m1 : Method := { name := "clean", desc := "()Z", sig := { parameters := [], returnType := some .boolean }, accessFlags := 0, code := some k3c1 }
/-- threadloom/cli/HandoffTally$Counts -/
def k3 : Class := { plain "threadloom/cli/HandoffTally$Counts" (some 2) with
  accessFlags := 48
  interfaces := #[]
  cf := some (fileOf pool3 8 #[.nestHost 67] #[{ accessFlags := 0, nameIndex := 5, descriptorIndex := 34, attributes := #[] }, { accessFlags := 0, nameIndex := 56, descriptorIndex := 57, attributes := #[] }] 48 2 #[] #[{ accessFlags := 18, nameIndex := 11, descriptorIndex := 12, attributes := #[] }, { accessFlags := 18, nameIndex := 15, descriptorIndex := 12, attributes := #[] }, { accessFlags := 18, nameIndex := 18, descriptorIndex := 12, attributes := #[] }, { accessFlags := 18, nameIndex := 21, descriptorIndex := 12, attributes := #[] }, { accessFlags := 18, nameIndex := 24, descriptorIndex := 25, attributes := #[] }, { accessFlags := 24, nameIndex := 49, descriptorIndex := 50, attributes := #[] }])
  fields := #[{ name := "received", type := .long, accessFlags := 18, slot := 0, constantValue := 0 }, { name := "lost", type := .long, accessFlags := 18, slot := 1, constantValue := 0 }, { name := "duplicated", type := .long, accessFlags := 18, slot := 2, constantValue := 0 }, { name := "orderViolations", type := .long, accessFlags := 18, slot := 3, constantValue := 0 }, { name := "loopThreads", type := .int, accessFlags := 18, slot := 4, constantValue := 0 }, { name := "NONE", type := (.object "threadloom/cli/HandoffTally$Counts"), accessFlags := 24, slot := 0, constantValue := 0 }]
  methods := #[k3m0, k3m1]
  instanceTypes := #[.long, .long, .long, .long, .int]
  staticTypes := #[(.object "threadloom/cli/HandoffTally$Counts")]
  resolved := Array.replicate 92 none
  statics := none }

def pool4 : Array CpInfo := pool [(1, u "java/lang/Cloneable"), (0, .class_ 1), (0, u "java/lang/Object"), (0, .class_ 3)] 3

/-- java/lang/Cloneable -/
def k4 : Class := { plain "java/lang/Cloneable" (some 0) with
  accessFlags := 1537
  interfaces := #[]
  cf := some (fileOf pool4 2 #[] #[] 1537 4 #[] #[])
  fields := #[]
  methods := #[]
  instanceTypes := #[]
  staticTypes := #[]
  resolved := Array.replicate 8 none
  statics := none }

def pool5 : Array CpInfo := pool [(1, u "java/io/Serializable"), (0, .class_ 1), (0, u "java/lang/Object"), (0, .class_ 3)] 3

/-- java/io/Serializable -/
def k5 : Class := { plain "java/io/Serializable" (some 0) with
  accessFlags := 1537
  interfaces := #[]
  cf := some (fileOf pool5 2 #[] #[] 1537 4 #[] #[])
  fields := #[]
  methods := #[]
  instanceTypes := #[]
  staticTypes := #[]
  resolved := Array.replicate 8 none
  statics := none }

/-- the primitive byte -/
def k6 : Class := { plain "byte" none with kind := .primitive 'B', accessFlags := 0x411 }
/-- [B -/
def k7 : Class := { plain "[B" (some 0) with kind := .array 6 .byte, interfaces := #[4, 5], accessFlags := 1041 }

/-- the primitive int -/
def k8 : Class := { plain "int" none with kind := .primitive 'I', accessFlags := 0x411 }
/-- [I -/
def k9 : Class := { plain "[I" (some 0) with kind := .array 8 .int, interfaces := #[4, 5], accessFlags := 1041 }

def heap : Heap := #[]
def classes : Array Class := #[k0, k1, k2, k3, k4, k5, k6, k7, k8, k9]
def interned : List (Array UInt16 × Addr) := []
def slotsUsed : Nat := 0
def theMethod : MethodId := ⟨1, 1⟩
def args0 : Array Value := #[.long 5, .long 3, .long 3, .long 3, .int 1, .int 1]
def aboutOver (below : List Frame) : State where
  vm := { classes := classes, interned := interned.toArray }
  heap := heap
  slotsUsed := slotsUsed
  threads := #[{ frames := .invoking theMethod args0 :: below }]
def below0 : List Frame := [.native { method := ⟨0, 0⟩, args := #[] }]
def about1 : State := aboutOver below0
def p0 : Program := .bare "" "" ""
def e0 : Env := launch0.env 0 0 0
theorem w_frames : about1.frames = Frame.invoking theMethod args0 :: below0 := rfl
set_option maxRecDepth 65536 in
theorem w_args : argsFit about1.vm theMethod args0 = true := by decide +kernel
set_option maxRecDepth 65536 in
theorem w_heap : heapFits about1 = true := by decide +kernel
set_option maxRecDepth 65536 in
theorem w_runnable : about1.curStatus? = some .runnable := by decide +kernel
set_option maxRecDepth 65536 in
theorem w_alone : about1.alone = true := by decide +kernel
set_option maxRecDepth 65536 in
theorem w_named : about1.methodNamed? x = some theMethod := by decide +kernel
set_option maxRecDepth 65536 in
theorem w_hears : about1.hears theMethod below0 = true := by decide +kernel
set_option maxRecDepth 65536 in
theorem w_ripe : about1.ripe theMethod args0 below0 = true := by decide +kernel
theorem w_running : about1.status = .running := rfl
set_option maxRecDepth 65536 in
theorem w_room : about1.hasRoom e0.platform room_1 = true :=
  launch0.hasRoom_least _ room_1 (by decide +kernel) (by decide +kernel) (by decide +kernel) (by decide +kernel) (by decide +kernel) (by decide +kernel)
theorem allAtoms_all (ts : List Jvm.Cond) (a : Array Jvm.Value) (st : Jvm.State) : (allAtoms ts).before a st = ts.all (fun c => c.before a st) := by
  induction ts with
  | nil => rfl
  | cons c t ih =>
    show (Jvm.Cond.and c (allAtoms t)).before a st = _
    rw [Jvm.Cond.before_and, ih, List.all_cons]
def words1 : List Jvm.Cond := Jvm.Cond.code x code maxLocals ret :: tables_1
/-- a 'code' word, met by the world's own term for the bytes: nothing is compared byte by byte -/
theorem code_word {y : MethodName} {bytes : ByteArray} {mx : Nat} {rt : Option FieldType} {a : Array Value} {s : State} {m : MethodId} {meth : Method} {c : Code} (h1 : s.methodNamed? y = some m) (h2 : s.vm.method? m = some meth) (h3 : meth.code = some c) (h4 : c.code = bytes)
    (h5 : (c.maxLocals == mx && c.exceptionTable.isEmpty && decide (c.maxStack ≤ mostOperands) && decide (meth.sig.returnType = rt) && !meth.locks && decide (parseMethodDescriptor y.desc = some meth.sig)) = true) : (Jvm.Cond.code y bytes mx rt).before a s = true := by
  simp only [Bool.and_eq_true, beq_iff_eq, Bool.not_eq_true', decide_eq_true_eq] at h5
  obtain ⟨⟨⟨⟨⟨g1, g2⟩, g3⟩, g4⟩, g5⟩, g6⟩ := h5
  simp [Cond.before, Cond.holds, Cond.value, h1, h2, h3, h4, g1, g2, g3, g4, g5, g6]
def isCode : Jvm.Cond → Bool
  | .code _ _ _ _ => true
  | _ => false
theorem all_split {L : List Jvm.Cond} {P : Jvm.Cond → Bool} (h1 : L.all (fun c => isCode c || P c) = true) (h2 : ∀ c ∈ L.filter isCode, P c = true) : L.all P = true := by
  refine List.all_eq_true.mpr fun c hc => ?_
  have h := List.all_eq_true.mp h1 c hc
  rcases Bool.eq_false_or_eq_true (isCode c) with hi | hi
  · exact h2 c (List.mem_filter.mpr ⟨hc, hi⟩)
  · simpa [hi] using h
set_option maxRecDepth 65536 in
theorem w_c0 : (Jvm.Cond.code x code maxLocals ret).before args0 about1 = true := code_word (m := ⟨1, 1⟩) (meth := k1m1) (c := k1c1) (by decide +kernel) rfl rfl rfl (by decide +kernel)
set_option maxRecDepth 65536 in
theorem w_c1 : (Jvm.Cond.code ({ cls := "threadloom/cli/HandoffTally$Counts", name := "<init>", desc := "(JJJJI)V" } : Jvm.MethodName) prog_32_method_1_code (10 : Nat) (Option.none : Option Jvm.ClassFile.FieldType)).before args0 about1 = true := code_word (m := ⟨3, 0⟩) (meth := k3m0) (c := k3c0) (by decide +kernel) rfl rfl rfl (by decide +kernel)
set_option maxRecDepth 65536 in
theorem w_c2 : (Jvm.Cond.code ({ cls := "java/lang/Record", name := "<init>", desc := "()V" } : Jvm.MethodName) jdk_30_method_1_code (1 : Nat) (Option.none : Option Jvm.ClassFile.FieldType)).before args0 about1 = true := code_word (m := ⟨2, 0⟩) (meth := k2m0) (c := k2c0) (by decide +kernel) rfl rfl rfl (by decide +kernel)
set_option maxRecDepth 65536 in
theorem w_c3 : (Jvm.Cond.code ({ cls := "java/lang/Object", name := "<init>", desc := "()V" } : Jvm.MethodName) object_method_1_code (1 : Nat) (Option.none : Option Jvm.ClassFile.FieldType)).before args0 about1 = true := code_word (m := ⟨0, 0⟩) (meth := k0m0) (c := k0c0) (by decide +kernel) rfl rfl rfl (by decide +kernel)
set_option maxRecDepth 65536 in
theorem w_c4 : (Jvm.Cond.code ({ cls := "threadloom/cli/HandoffTally$Counts", name := "clean", desc := "()Z" } : Jvm.MethodName) prog_32_method_3_code (1 : Nat) (Option.some Jvm.ClassFile.FieldType.boolean)).before args0 about1 = true := code_word (m := ⟨3, 1⟩) (meth := k3m1) (c := k3c1) (by decide +kernel) rfl rfl rfl (by decide +kernel)
def codes1 : List Jvm.Cond := [Jvm.Cond.code x code maxLocals ret, Jvm.Cond.code ({ cls := "threadloom/cli/HandoffTally$Counts", name := "<init>", desc := "(JJJJI)V" } : Jvm.MethodName) prog_32_method_1_code (10 : Nat) (Option.none : Option Jvm.ClassFile.FieldType), Jvm.Cond.code ({ cls := "java/lang/Record", name := "<init>", desc := "()V" } : Jvm.MethodName) jdk_30_method_1_code (1 : Nat) (Option.none : Option Jvm.ClassFile.FieldType), Jvm.Cond.code ({ cls := "java/lang/Object", name := "<init>", desc := "()V" } : Jvm.MethodName) object_method_1_code (1 : Nat) (Option.none : Option Jvm.ClassFile.FieldType), Jvm.Cond.code ({ cls := "threadloom/cli/HandoffTally$Counts", name := "clean", desc := "()Z" } : Jvm.MethodName) prog_32_method_3_code (1 : Nat) (Option.some Jvm.ClassFile.FieldType.boolean)]
set_option maxRecDepth 65536 in
theorem codes_eq : words1.filter isCode = codes1 := rfl
theorem w_codes : ∀ c ∈ words1.filter isCode, c.before args0 about1 = true := by
  rw [codes_eq]
  intro c hc
  simp only [codes1, List.mem_cons, List.not_mem_nil, or_false] at hc
  rcases hc with rfl | rfl | rfl | rfl | rfl
  · exact w_c0
  · exact w_c1
  · exact w_c2
  · exact w_c3
  · exact w_c4
set_option maxRecDepth 65536 in
theorem w_t1 : (words1.take 24).all (fun c => isCode c || c.before args0 about1) = true := by decide +kernel
set_option maxRecDepth 65536 in
theorem w_t2 : (words1.drop 24).all (fun c => isCode c || c.before args0 about1) = true := by decide +kernel
theorem w_tables : (allAtoms (Jvm.Cond.code x code maxLocals ret :: tables_1)).before args0 about1 = true := by
  rw [allAtoms_all]
  show words1.all (fun c => c.before args0 about1) = true
  refine all_split ?_ w_codes
  rw [← List.take_append_drop 24 words1, List.all_append, w_t1, w_t2]
  rfl
set_option maxRecDepth 65536 in
theorem w_case : (Jvm.Cond.and given_1 narrow_1).before args0 about1 = true := by decide +kernel
theorem w_applies : (headSpec (Jvm.Cond.code x code maxLocals ret :: tables_1) room_1).applies x e0.platform about1 = true :=
  (Spec.applies_iff w_frames).mpr ⟨w_running, w_runnable, w_alone, w_named, w_hears, w_ripe, w_room, w_tables⟩
theorem atStart : AtStart classFile x code maxLocals ret World_1 tables_1 room_1 Calls_1 rest_1 Pre_1 launch0 p0 e0 about1 theMethod args0 below0 :=
  ⟨lists_1, trivial, launch0.admits_env _ _ _, launch0.least_env, fairChoices_fair.cas, fairChoices_fair.clock, w_frames, w_args, w_heap, w_applies, trivial, trivial, w_case⟩
end start1
theorem witness_1 : WitnessClaimed_1 := ⟨start1.p0, start1.e0, start1.about1, start1.theMethod, start1.args0, start1.below0, start1.atStart⟩
end Jvm.Pilot.@@N@@
