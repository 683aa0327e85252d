import JvmDerived
import JvmDerived.Pilot.@@N@@Statement
import JvmDerived.Pilot.@@N@@Code
set_option linter.unusedVariables false
set_option linter.unusedSimpArgs false
namespace Jvm.OwnW
open Sem ClassFile Op Lib Jvm.Free Jvm.Stand Jvm.LawKit Jvm.RoadKit Jvm.Free.XT
/-! ## a walk's fixed data, and what is asked of the rest of it -/
abbrev Cx : Type := Program × Launch × Env × Room × State × MethodId × Array Value × List Frame × Method × Code
abbrev Cx.p (x : Cx) : Program := x.1
abbrev Cx.l (x : Cx) : Launch := x.2.1
abbrev Cx.e (x : Cx) : Env := x.2.2.1
abbrev Cx.R (x : Cx) : Room := x.2.2.2.1
abbrev Cx.s (x : Cx) : State := x.2.2.2.2.1
abbrev Cx.m (x : Cx) : MethodId := x.2.2.2.2.2.1
abbrev Cx.args (x : Cx) : Array Value := x.2.2.2.2.2.2.1
abbrev Cx.below (x : Cx) : List Frame := x.2.2.2.2.2.2.2.1
abbrev Cx.meth (x : Cx) : Method := x.2.2.2.2.2.2.2.2.1
abbrev Cx.c (x : Cx) : Code := x.2.2.2.2.2.2.2.2.2
abbrev Sd (x : Cx) (T : State) (locs : List Loc) (k n : Nat) : Prop := Stand x.p x.l x.e x.R x.s x.m x.args x.below x.meth x.c T locs k n
/-- what is known of a walk of the method nm (of the class own) over the tables of Z -/
def Ok (x : Cx) (Z : State) (own nm : String) (bytes : ByteArray) (ml : Nat) (rt : Option FieldType) (R : Room) : Prop :=
  x.p.tables.exec = Jvm.exec ∧ x.c.code = bytes ∧ x.c.maxLocals = ml ∧ x.s.vm.findClass own = some x.m.cls ∧ x.meth.name = nm ∧ Z.Warmed39 x.s.vm ∧ x.meth.sig.returnType = rt ∧ x.meth.locks = false ∧ x.R = R
abbrev Post : Type := Option Value → Heap → Prop
def Done (x : Cx) (n0 : Nat) (Q : Post) (U : State) : Prop :=
  ∃ s₂ o, Steps x.p.tables x.e x.below U s₂ ∧ s₂.status = .running ∧ Ended s₂ x.below o ∧ ∃ v L, o = .returned v ∧ (Q v s₂.heap ∧ Fr n0 L) ∧ FrameEnd x.s o s₂ L x.R.cells x.R.slots
/-- from here (heap h; k cells and n slots made so far; the frame) the walk comes to its end, and Q holds of it -/
def WP (x : Cx) (n0 : Nat) (Q : Post) (h : Heap) (k n : Nat) (pc : Nat) (L : Array Slot) (S : List Value) : Prop :=
  ∀ T locs, Sd x T locs k n → T.heap = h → Fr n0 locs → Done x n0 Q (T.setTop (mkF x.m pc L S))
/-- a method's contract at one heap and one list of arguments -/
def Con (l : Launch) (Z : State) (y : MethodName) (bytes : ByteArray) (maxL : Nat) (ret : Option FieldType) (rm : Room) (as : Array Value) (h : Heap) (n0 : Nat) (Q : Post) (ws : List Jvm.Cond) : Prop :=
  MetFree l y (head1 (Jvm.Cond.code y bytes maxL ret :: ws) rm) (fun a U => a = as ∧ Z.Warmed39 U.vm ∧ U.heap = h) (fun _ _ _ _ _ => True) (fun _ U o U' => ∃ v L, o = .returned v ∧ (Q v U'.heap ∧ Fr n0 L) ∧ FrameEnd U o U' L rm.cells rm.slots)
theorem wd {ts : List Jvm.Cond} {a0 : Array Value} {Z : State} (hw : ∀ d ∈ ts, d.before a0 Z = true) (k : Nat) {d : Jvm.Cond} (h : ts[k]? = some d) : d.before a0 Z = true := hw d (List.mem_of_getElem? h)
theorem ne_new {h : Heap} {a b : Addr} (hb : b < h.size) (e : a = h.size) : b ≠ a := by rw [e]; exact Nat.ne_of_lt hb
theorem Fld_c {Z : State} {h : Heap} {a : Addr} {O n d : String} {v w : Value} (F : Fld Z h a O n d v) (e : v = w) : Fld Z h a O n d w := e ▸ F
theorem Sta_keep0 {Z : State} {h h' : Heap} {C n d : String} {v : Value} (F : Sta Z h C n d v) (K : Keep h h' []) : Sta Z h' C n d v := by
  obtain ⟨cf, i, k, f, st, cell, h1, h2, h3, h4, h5, r⟩ := F
  exact ⟨cf, i, k, f, st, cell, h1, h2, h3, h4, K.2.1 _ _ h5 nin0, r⟩
section Rules
variable {x : Cx} {Z : State} {own nm : String} {bytes : ByteArray} {ml : Nat} {rt : Option FieldType} {R : Room} {n0 : Nat} {Q : Post} {h : Heap} {k n : Nat} {pc pc' : Nat} {L L' : Array Slot} {S S' rest : List Value} {a0 : Array Value} {a : Addr} {v : Value}
theorem con_of_wp {l : Launch} {y : MethodName} {as : Array Value} {L0 : Array Slot} {ws : List Jvm.Cond} (pn : plainFor y = true) (ef : ∀ m, entryFrame m as ml = mkF m 0 L0 [])
    (H : ∀ x : Cx, x.l = l → Ok x Z y.cls y.name bytes ml rt R → WP x n0 Q h 0 0 0 L0 []) : Con l Z y bytes ml rt R as h n0 Q ws := by
  refine MetFree.of_bodySF pn hisR ?_
  intro p e s m args below meth c s₁ Bd hml0 hP hK
  obtain ⟨rfl, hZ, hh⟩ := hP
  have X0 : Stand p l e R s m args below meth c s₁ [] 0 0 := Stand.of_body Bd
  have e0 : s₁.heap = h := by rw [← hh, Bd.state]; rfl
  have ok : Ok (p, l, e, R, s, m, args, below, meth, c) Z y.cls y.name bytes ml rt R := ⟨Bd.exec, Bd.bytes, hml0, findClass_of_methodNamed Bd.named, (name_of_methodNamed Bd.named Bd.method).1, hZ, Bd.returns, Bd.notSynchronized, rfl⟩
  obtain ⟨s₂, o, h1, h2, h3, h4⟩ := H (p, l, e, R, s, m, args, below, meth, c) rfl ok s₁ [] X0 e0 (Fr.nil n0)
  exact ⟨s₂, o, castTop (ef m) h1, h2, h3, h4⟩
theorem wp_more {k' n' : Nat} (hk : k ≤ k') (hn : n ≤ n') (w : WP x n0 Q h k' n' pc L S) : WP x n0 Q h k n pc L S := fun T locs X e N => w T locs (X.more hk hn) e N
theorem wp_steps (st : ∀ T locs target, Sd x T locs k n → T.heap = h → Steps x.p.tables x.e x.below (T.setTop (mkF x.m pc' L' S')) target → Steps x.p.tables x.e x.below (T.setTop (mkF x.m pc L S)) target) (w : WP x n0 Q h k n pc' L' S') : WP x n0 Q h k n pc L S := fun T locs X e N => by
  obtain ⟨s₂, o, h1, r⟩ := w T locs X e N
  exact ⟨s₂, o, st T locs _ X e h1, r⟩
/-! ## returns -/
theorem wp_done {v' : Option Value} (ok : Ok x Z own nm bytes ml rt R) (hk : k ≤ R.cells) (hn : n ≤ R.slots) (hv : rt = none → v' = none) (hq : Q v' h)
    (st : ∀ T locs fs, Sd x T locs k n → (∀ (f : JFrame) (acts : List Action), f.method = x.m → f.locked = none → f.entered = [] → (doReturn x.e (T.setTop f) acts v').1 = T.setFrames fs) → Steps x.p.tables x.e x.below (T.setTop (mkF x.m pc L S)) (T.setFrames fs)) : WP x n0 Q h k n pc L S := fun T locs X e N => by
  obtain ⟨hx, hby, hml, hown, hnm, hZ, hrt, hlk, hR⟩ := ok
  have hlocks : x.meth.locks = false := hlk
  obtain ⟨fs, hr, hrun, hended, hW, hsame⟩ := X.leave (v := v') (fun q => hv (hrt.symm.trans q)) hlocks
  refine ⟨_, _, st T locs fs X hr, hrun, hended, _, locs, rfl, ⟨?_, N⟩, ⟨_, rfl⟩, hW, hsame.mono (by rw [hR]; exact hk) (by rw [hR]; exact hn)⟩
  show Q v' T.heap
  rw [e]; exact hq
theorem wp_retV (ok : Ok x Z own nm bytes ml none R) (hd : decode bytes pc = .ok (.return_, 1)) (hk : k ≤ R.cells) (hn : n ≤ R.slots) (hq : Q none h) : WP x n0 Q h k n pc L [] :=
  wp_done ok hk hn (fun _ => rfl) hq fun T locs fs X hr => X.returnOut ok.1 ok.2.2.2.2.2.2.1 (hb ok.2.1 hd) hr
theorem wp_retZ {z : Int32} {t : FieldType} (ok : Ok x Z own nm bytes ml (some t) R) (ht : t = .boolean ∨ t = .byte ∨ t = .char ∨ t = .short) (hd : decode bytes pc = .ok (.ireturn, 1)) (hk : k ≤ R.cells) (hn : n ≤ R.slots) (hq : Q (some (.int (nar t z))) h) : WP x n0 Q h k n pc L (.int z :: rest) :=
  wp_done ok hk hn (fun q => nomatch q) hq fun T locs fs X hr => retN X ok.1 ok.2.2.2.2.2.2.1 ht (hb ok.2.1 hd) hr
theorem wp_retI {z : Int32} (ok : Ok x Z own nm bytes ml (some .int) R) (hd : decode bytes pc = .ok (.ireturn, 1)) (hk : k ≤ R.cells) (hn : n ≤ R.slots) (hq : Q (some (.int z)) h) : WP x n0 Q h k n pc L (.int z :: rest) :=
  wp_done ok hk hn (fun q => nomatch q) hq fun T locs fs X hr => retOut X ok.1 ok.2.2.2.2.2.2.1 (w := .int z) rfl (Or.inl ⟨rfl, Or.inl rfl, z, rfl⟩) (hb ok.2.1 hd) hr
theorem wp_retJ {z : Int64} (ok : Ok x Z own nm bytes ml (some .long) R) (hd : decode bytes pc = .ok (.lreturn, 1)) (hk : k ≤ R.cells) (hn : n ≤ R.slots) (hq : Q (some (.long z)) h) : WP x n0 Q h k n pc L (.long z :: rest) :=
  wp_done ok hk hn (fun q => nomatch q) hq fun T locs fs X hr => retOut X ok.1 ok.2.2.2.2.2.2.1 (w := .long z) rfl (Or.inr (Or.inl ⟨rfl, rfl, z, rfl⟩)) (hb ok.2.1 hd) hr
theorem wp_retA {w : Value} {t : FieldType} (ok : Ok x Z own nm bytes ml (some t) R) (ht : t.isReference = true) (hw : w.isRef = true) (hd : decode bytes pc = .ok (.areturn, 1)) (hk : k ≤ R.cells) (hn : n ≤ R.slots) (hq : Q (some w) h) : WP x n0 Q h k n pc L [w] :=
  wp_done ok hk hn (fun q => nomatch q) hq fun T locs fs X hr => X.areturnOut ok.1 hw ok.2.2.2.2.2.2.1 ht (hb ok.2.1 hd) hr
/-! ## the heap -/
theorem wp_getF {O nf d : String} {index : Nat} (ok : Ok x Z own nm bytes ml rt R) (w : (Jvm.Cond.fieldLink own index O nf d).before a0 Z = true) (F : Fld Z h a O nf d v) (hd : decode bytes pc = .ok (.getfield index, 3)) (hw : WP x n0 Q h k n (pc + 3) L (v :: rest)) : WP x n0 Q h k n pc L (.ref a :: rest) := fun T locs X e N => by
  obtain ⟨T', X', e', st⟩ := getF X ok.1 ok.2.2.2.2.2.1 ok.2.2.2.1 (host := "") (Or.inl w) Via.refl e F (g := mkF x.m pc L (.ref a :: rest)) rfl rfl (hb ok.2.1 hd)
  obtain ⟨s₂, o, h1, r⟩ := hw T' locs X' e' N
  exact ⟨s₂, o, st _ h1, r⟩
theorem wp_getS {O nf d : String} {index : Nat} (ok : Ok x Z own nm bytes ml rt R) (w : (Jvm.Cond.fieldLink own index O nf d).before a0 Z = true) (F : Sta Z h O nf d v) (hd : decode bytes pc = .ok (.getstatic index, 3)) (hw : WP x n0 Q h k n (pc + 3) L (v :: S)) : WP x n0 Q h k n pc L S := fun T locs X e N => by
  obtain ⟨T', X', e', st⟩ := getS (host := "") X ok.1 ok.2.2.2.2.2.1 ok.2.2.2.1 w Via.refl e F (g := mkF x.m pc L S) rfl (hb ok.2.1 hd)
  obtain ⟨s₂, o, h1, r⟩ := hw T' locs X' e' N
  exact ⟨s₂, o, st _ h1, r⟩
theorem wp_putF {O nf d C : String} {index kk : Nat} {ty : FieldType} {old : Value} (ok : Ok x Z own nm bytes ml rt R) (w : (Jvm.Cond.fieldLink own index O nf d).before a0 Z = true) (F : Fld Z h a O nf d old) (E : Exa Z h a C)
    (Ly : (Jvm.Cond.lays C O nf d).before a0 Z = true ∨ ((Jvm.Cond.laysFinal C O nf d).before a0 Z = true ∧ own = O ∧ nm = "<init>")) (wi : (Jvm.Cond.instantiable C kk).before a0 Z = true) (hty : parseFieldDescriptor d = some ty) (hnw : narrow ty v = v) (hf : fits ty v = true) (hd : decode bytes pc = .ok (.putfield index, 3)) (ha : n0 ≤ a)
    (hw : ∀ h', Wr h h' a (Jvm.RoadKit.slotOf Z O nf d) v → WP x n0 Q h' k n (pc + 3) L rest) : WP x n0 Q h k n pc L (v :: .ref a :: rest) := fun T locs X e N => by
  obtain ⟨T', h', X', e', W, st⟩ := putF X ok.1 ok.2.2.2.2.2.1 ok.2.2.2.1 (host := "") (Or.inl w) Via.refl e F E (Ly.imp id fun q => ⟨q.1, q.2.1, ok.2.2.2.2.1.trans q.2.2⟩) wi hty hnw hf (g := mkF x.m pc L (v :: .ref a :: rest)) rfl rfl (hb ok.2.1 hd)
  obtain ⟨s₂, o, h1, r⟩ := hw h' W T' _ X' e' (Fr.snoc X' N ha)
  exact ⟨s₂, o, st _ h1, r⟩
theorem wp_new {C : String} {index sz : Nat} (ok : Ok x Z own nm bytes ml rt R) (w : (Jvm.Cond.classLink own index C).before a0 Z = true) (wi : (Jvm.Cond.instantiable C sz).before a0 Z = true) (wz : (Jvm.Cond.initialized C).before a0 Z = true) (hd : decode bytes pc = .ok (.new index, 3)) (hk : k + 1 ≤ R.cells) (hn : n + sz ≤ R.slots)
    (hw : ∀ h' a, a = h.size → Ext h h' → Exa Z h' a C → (∀ {O nf d : String} {ty : FieldType}, Laid Z a0 C O nf d → parseFieldDescriptor d = some ty → Fld Z h' a O nf d (defaultValue ty)) → WP x n0 Q h' (k + 1) (n + sz) (pc + 3) L (.ref a :: S)) : WP x n0 Q h k n pc L S := fun T locs X e N => by
  obtain ⟨T', h', X', e', E, A, D, -, st⟩ := newO X ok.1 ok.2.2.2.2.2.1 ok.2.2.2.1 w wi wz e (g := mkF x.m pc L S) rfl (hb ok.2.1 hd) (by rw [ok.2.2.2.2.2.2.2.2]; exact hk) (by rw [ok.2.2.2.2.2.2.2.2]; exact hn)
  obtain ⟨s₂, o, h1, r⟩ := hw h' h.size rfl E A D T' _ X' e' N
  exact ⟨s₂, o, st _ h1, r⟩
theorem wp_initO {index : Nat} (ok : Ok x Z own nm bytes ml rt R) (w1 : (Jvm.Cond.methodLink own index Lib.objectInit).before a0 Z = true) (w2 : (Jvm.Cond.instanceMethod Lib.objectInit).before a0 Z = true) (w3 : (Jvm.Cond.code Lib.objectInit ⟨#[0xb1]⟩ 1 none).before a0 Z = true) (hL : L.size = ml)
    (hd : decode bytes pc = .ok (.invokespecial index, 3)) (hf : 1 ≤ R.frames) (hl : (rest.map fun v => v.category).sum + 12 ≤ R.locals) (hw : WP x n0 Q h k n (pc + 3) L rest) : WP x n0 Q h k n pc L (.ref a :: rest) := fun T locs X e N => by
  obtain ⟨T', X', e', st⟩ := initO X ok.1 ok.2.2.2.2.2.1 ok.2.2.2.1 w1 w2 w3 e (g := mkF x.m pc L (.ref a :: rest)) rfl (by show L.size = _; rw [ok.2.2.1]; exact hL) rfl (hb ok.2.1 hd) (by rw [ok.2.2.2.2.2.2.2.2]; exact hf) (W := (rest.map fun v => v.category).sum) (by show 2 * 0 + _ ≤ _; omega) (by rw [ok.2.2.2.2.2.2.2.2]; exact hl)
  obtain ⟨s₂, o, h1, r⟩ := hw T' locs X' e' N
  exact ⟨s₂, o, st _ h1, r⟩
/-! ## calls by contract -/
theorem wp_static {y : MethodName} {cb : ByteArray} {cm : Nat} {cr : Option FieldType} {rm : Room} {index : Nat} {argsL : List Value} {Q' : Post} {ps : List FieldType} (ok : Ok x Z own nm bytes ml rt R) (w1 : (Jvm.Cond.methodLink own index y).before a0 Z = true) (w2 : (Jvm.Cond.static y).before a0 Z = true) (w3 : (Jvm.Cond.initialized y.cls).before a0 Z = true) (w4 : (Jvm.Cond.code y cb cm cr).before a0 Z = true)
    (hy : y.cls ≠ "java/lang/invoke/MethodHandle" ∧ y.cls ≠ "java/lang/invoke/VarHandle") (C : Con x.l Z y cb cm cr rm argsL.toArray h n0 Q' []) (pd : parseMethodDescriptor y.desc = some ⟨ps, cr⟩) (hlen : argsL.length = ps.length) (hst : S = argsL.reverse ++ rest) (hL : L.size = ml) (hd : decode bytes pc = .ok (.invokestatic index, 3))
    (hf : rm.frames + 1 ≤ R.frames) (hl : (rest.map fun v => v.category).sum + (cm + 11) + rm.locals ≤ R.locals) (hk : k + rm.cells ≤ R.cells) (hn : n + rm.slots ≤ R.slots)
    (hw : ∀ v h', Q' v h' → WP x n0 Q h' (k + rm.cells) (n + rm.slots) (pc + 3) L (v.toList ++ rest)) : WP x n0 Q h k n pc L S := fun T locs X e N => by
  have hZ := ok.2.2.2.2.2.1
  have hR := ok.2.2.2.2.2.2.2.2
  obtain ⟨v, _, ⟨T', L2, k2, n2⟩, -, X', ⟨Lc, hQ, l1, y1, z1⟩, st⟩ := Jvm.LawKit.callS X ok.1 (y := y) ok.2.2.2.1 (mvT hZ w1) (mvT hZ w2) (mvT hZ w3) (mvT hZ w4) hy (backOf (W := (rest.map fun v => v.category).sum) (Q := fun v h L => Q' v h ∧ Fr n0 L) C hZ w4 w3 (by rw [hR]; exact hf) (by rw [hR]; exact hl)) (g := mkF x.m pc L S) rfl (by show L.size = _; rw [ok.2.2.1]; exact hL) (argsL := argsL) (rest := rest) (lenOf pd hlen) hst (by show 2 * 0 + _ ≤ _; omega) (hb ok.2.1 hd) (fun _ _ => ⟨rfl, e, by rw [hR]; exact hk, by rw [hR]; exact hn⟩)
  dsimp only [Pt.U, Pt.locs, Pt.cells, Pt.slots] at X' l1 y1 z1 st hQ
  subst l1 y1 z1
  obtain ⟨s₂, o, h1, r⟩ := hw v _ hQ.1 T' _ X' rfl (Fr.app N hQ.2)
  exact ⟨s₂, o, st _ h1, r⟩
theorem wp_special {y : MethodName} {cb : ByteArray} {cm : Nat} {rm : Room} {index : Nat} {argsL : List Value} {Q' : Post} {ps : List FieldType} (ok : Ok x Z own nm bytes ml rt R) (hy1 : y.name = "<init>") (w1 : (Jvm.Cond.methodLink own index y).before a0 Z = true) (w2 : (Jvm.Cond.instanceMethod y).before a0 Z = true) (w3 : (Jvm.Cond.initialized y.cls).before a0 Z = true) (w4 : (Jvm.Cond.code y cb cm none).before a0 Z = true)
    (hy : y.cls ≠ "java/lang/invoke/MethodHandle" ∧ y.cls ≠ "java/lang/invoke/VarHandle") (C : Con x.l Z y cb cm none rm (Value.ref a :: argsL).toArray h n0 Q' []) (pd : parseMethodDescriptor y.desc = some ⟨ps, none⟩) (hlen : argsL.length = ps.length) (hst : S = argsL.reverse ++ .ref a :: rest) (hL : L.size = ml) (hd : decode bytes pc = .ok (.invokespecial index, 3))
    (hf : rm.frames + 1 ≤ R.frames) (hl : (rest.map fun v => v.category).sum + (cm + 11) + rm.locals ≤ R.locals) (hk : k + rm.cells ≤ R.cells) (hn : n + rm.slots ≤ R.slots)
    (hw : ∀ v h', Q' v h' → WP x n0 Q h' (k + rm.cells) (n + rm.slots) (pc + 3) L (v.toList ++ rest)) : WP x n0 Q h k n pc L S := fun T locs X e N => by
  have hZ := ok.2.2.2.2.2.1
  have hR := ok.2.2.2.2.2.2.2.2
  obtain ⟨v, _, ⟨T', L2, k2, n2⟩, -, X', ⟨Lc, hQ, l1, y1, z1⟩, st⟩ := X.specialBack ok.1 (y := y) hy1 ok.2.2.2.1 (mvT hZ w1) (mvT hZ w2) (mvT hZ w4) hy (backOf (W := (rest.map fun v => v.category).sum) (Q := fun v h L => Q' v h ∧ Fr n0 L) C hZ w4 w3 (by rw [hR]; exact hf) (by rw [hR]; exact hl)) (g := mkF x.m pc L S) rfl (by show L.size = _; rw [ok.2.2.1]; exact hL) (Steps.refl _) (a := a) (argsL := argsL) (rest := rest) (lenOf pd hlen) hst (by show 2 * 0 + _ ≤ _; omega) (hb ok.2.1 hd) (fun _ _ => ⟨rfl, e, by rw [hR]; exact hk, by rw [hR]; exact hn⟩)
  dsimp only [Pt.U, Pt.locs, Pt.cells, Pt.slots] at X' l1 y1 z1 st hQ
  subst l1 y1 z1
  obtain ⟨s₂, o, h1, r⟩ := hw v _ hQ.1 T' _ X' rfl (Fr.app N hQ.2)
  exact ⟨s₂, o, st.trans h1, r⟩
theorem wp_virtual {y : MethodName} {cb : ByteArray} {cm : Nat} {cr : Option FieldType} {rm : Room} {index : Nat} {argsL : List Value} {Q' : Post} {ps : List FieldType} {C : String} (ok : Ok x Z own nm bytes ml rt R) (w1 : (Jvm.Cond.methodLink own index y).before a0 Z = true) (w5 : (Jvm.Cond.declares y).before a0 Z = true) (w6 : (Jvm.Cond.selects C y y).before a0 Z = true) (w2 : (Jvm.Cond.instanceMethod y).before a0 Z = true) (w3 : (Jvm.Cond.initialized y.cls).before a0 Z = true) (w4 : (Jvm.Cond.code y cb cm cr).before a0 Z = true)
    (hy : y.cls ≠ "java/lang/invoke/MethodHandle" ∧ y.cls ≠ "java/lang/invoke/VarHandle") (E : Exa Z h a C) (Cn : Con x.l Z y cb cm cr rm (Value.ref a :: argsL).toArray h n0 Q' []) (pd : parseMethodDescriptor y.desc = some ⟨ps, cr⟩) (hlen : argsL.length = ps.length) (hst : S = argsL.reverse ++ .ref a :: rest) (hL : L.size = ml) (hd : decode bytes pc = .ok (.invokevirtual index, 3))
    (hf : rm.frames + 1 ≤ R.frames) (hl : (rest.map fun v => v.category).sum + (cm + 11) + rm.locals ≤ R.locals) (hk : k + rm.cells ≤ R.cells) (hn : n + rm.slots ≤ R.slots)
    (hw : ∀ v h', Q' v h' → WP x n0 Q h' (k + rm.cells) (n + rm.slots) (pc + 3) L (v.toList ++ rest)) : WP x n0 Q h k n pc L S := fun T locs X e N => by
  have hZ := ok.2.2.2.2.2.1
  have hR := ok.2.2.2.2.2.2.2.2
  obtain ⟨cq, kq, qa, qb, qc⟩ := isOf (T := T) (s := x.s) hZ e E
  obtain ⟨v, _, ⟨T', L2, k2, n2⟩, -, X', ⟨Lc, hQ, l1, y1, z1⟩, st⟩ := X.virtualBack ok.1 (y := y) (z := y) ok.2.2.2.1 (mvT hZ w1) (mvT hZ w5) (notFace_of_selects (args := #[]) (mvT hZ w6)) (mvT hZ w6) (mvT hZ w2) hy (backOf (W := (rest.map fun v => v.category).sum) (Q := fun v h L => Q' v h ∧ Fr n0 L) Cn hZ w4 w3 (by rw [hR]; exact hf) (by rw [hR]; exact hl)) qa qc (g := mkF x.m pc L S) rfl (by show L.size = _; rw [ok.2.2.1]; exact hL) (Steps.refl _) (argsL := argsL) (rest := rest) (lenOf pd hlen) hst (by show 2 * 0 + _ ≤ _; omega) (hb ok.2.1 hd) (fun _ _ => ⟨rfl, e, by rw [hR]; exact hk, by rw [hR]; exact hn⟩)
  dsimp only [Pt.U, Pt.locs, Pt.cells, Pt.slots] at X' l1 y1 z1 st hQ
  subst l1 y1 z1
  obtain ⟨s₂, o, h1, r⟩ := hw v _ hQ.1 T' _ X' rfl (Fr.app N hQ.2)
  exact ⟨s₂, o, st.trans h1, r⟩
/-! ## arrays -/
theorem wp_newA {aty : ArrayType} {z : Int32} {cap : Nat} (ok : Ok x Z own nm bytes ml rt R) (w : (Jvm.Cond.arrayClass (newarray.typeOf aty)).before a0 Z = true) (hd : decode bytes pc = .ok (.newarray aty, 2)) (hz : ¬ z < 0) (hcap : z.toNatClampNeg ≤ cap) (hb8 : cap * 8 ≤ 536870912) (hk : k + 1 ≤ R.cells) (hn : n + cap ≤ R.slots)
    (hw : ∀ h' a cA, a = h.size → Ext h h' → Arr Z h' a (newA cA (newarray.typeOf aty) z) (newarray.typeOf aty) → WP x n0 Q h' (k + 1) (n + cap) (pc + 2) L (.ref a :: rest)) : WP x n0 Q h k n pc L (.int z :: rest) := fun T locs X e N => by
  obtain ⟨T', h', cA, X', e', E, A, st⟩ := newP X ok.1 ok.2.2.2.2.2.1 w e (g := mkF x.m pc L (.int z :: rest)) rfl (hb ok.2.1 hd) rfl hz hcap hb8 (by rw [ok.2.2.2.2.2.2.2.2]; exact hk) (by rw [ok.2.2.2.2.2.2.2.2]; exact hn)
  obtain ⟨s₂, o, h1, r⟩ := hw h' _ cA rfl E A T' _ X' e' N
  exact ⟨s₂, o, st _ h1, r⟩
theorem wp_stI {cl : Cell} {j z : Int32} (ok : Ok x Z own nm bytes ml rt R) (A : Arr Z h a cl .int) (hj : ¬ (j < 0 ∨ cl.slots.size ≤ j.toNatClampNeg)) (hd : decode bytes pc = .ok (.iastore, 1)) (ha : n0 ≤ a)
    (hw : ∀ h', Wr h h' a j.toNatClampNeg (.int z) → WP x n0 Q h' k n (pc + 1) L rest) : WP x n0 Q h k n pc L (.int z :: .int j :: .ref a :: rest) := fun T locs X e N => by
  obtain ⟨T', h', X', e', W, st⟩ := stI X ok.1 ok.2.2.2.2.2.1 e A hj (g := mkF x.m pc L (.int z :: .int j :: .ref a :: rest)) rfl rfl (hb ok.2.1 hd)
  obtain ⟨s₂, o, h1, r⟩ := hw h' W T' _ X' e' (Fr.snoc X' N ha)
  exact ⟨s₂, o, st _ h1, r⟩
theorem wp_stJ {cl : Cell} {j : Int32} {z : Int64} (ok : Ok x Z own nm bytes ml rt R) (A : Arr Z h a cl .long) (hj : ¬ (j < 0 ∨ cl.slots.size ≤ j.toNatClampNeg)) (hd : decode bytes pc = .ok (.lastore, 1)) (ha : n0 ≤ a)
    (hw : ∀ h', Wr h h' a j.toNatClampNeg (.long z) → WP x n0 Q h' k n (pc + 1) L rest) : WP x n0 Q h k n pc L (.long z :: .int j :: .ref a :: rest) := fun T locs X e N => by
  obtain ⟨T', h', X', e', W, st⟩ := stJ X ok.1 ok.2.2.2.2.2.1 e A hj (g := mkF x.m pc L (.long z :: .int j :: .ref a :: rest)) rfl rfl (hb ok.2.1 hd)
  obtain ⟨s₂, o, h1, r⟩ := hw h' W T' _ X' e' (Fr.snoc X' N ha)
  exact ⟨s₂, o, st _ h1, r⟩
theorem wp_ldI {cl : Cell} {j : Int32} (ok : Ok x Z own nm bytes ml rt R) (A : Arr Z h a cl .int) (hj : ¬ (j < 0 ∨ cl.slots.size ≤ j.toNatClampNeg)) (hv : cl.slots[j.toNatClampNeg]? = some v) (hd : decode bytes pc = .ok (.iaload, 1)) (hw : WP x n0 Q h k n (pc + 1) L (v :: rest)) : WP x n0 Q h k n pc L (.int j :: .ref a :: rest) :=
  wp_steps (fun T locs target X e hr => X.iaload ok.1 (by rw [e]; exact A.1) (State.isArrayOf_alike ok.2.2.2.2.2.1.alike A.2.1) A.2.2 hj hv (g := mkF x.m pc L (.int j :: .ref a :: rest)) rfl rfl (hb ok.2.1 hd) target hr) hw
theorem wp_ldJ {cl : Cell} {j : Int32} (ok : Ok x Z own nm bytes ml rt R) (A : Arr Z h a cl .long) (hj : ¬ (j < 0 ∨ cl.slots.size ≤ j.toNatClampNeg)) (hv : cl.slots[j.toNatClampNeg]? = some v) (hd : decode bytes pc = .ok (.laload, 1)) (hw : WP x n0 Q h k n (pc + 1) L (v :: rest)) : WP x n0 Q h k n pc L (.int j :: .ref a :: rest) :=
  wp_steps (fun T locs target X e hr => X.laload ok.1 (by rw [e]; exact A.1) (State.isArrayOf_alike ok.2.2.2.2.2.1.alike A.2.1) A.2.2 hj hv (g := mkF x.m pc L (.int j :: .ref a :: rest)) rfl rfl (hb ok.2.1 hd) target hr) hw
theorem wp_ldB {cl : Cell} {j : Int32} (ok : Ok x Z own nm bytes ml rt R) (A : Arr Z h a cl .byte) (hj : ¬ (j < 0 ∨ cl.slots.size ≤ j.toNatClampNeg)) (hv : cl.slots[j.toNatClampNeg]? = some v) (hd : decode bytes pc = .ok (.baload, 1)) (hw : WP x n0 Q h k n (pc + 1) L (v :: rest)) : WP x n0 Q h k n pc L (.int j :: .ref a :: rest) :=
  wp_steps (fun T locs target X e hr => X.baloadBytes ok.1 (by rw [e]; exact A.1) (State.isArrayOf_alike ok.2.2.2.2.2.1.alike A.2.1) A.2.2 hj hv (g := mkF x.m pc L (.int j :: .ref a :: rest)) rfl rfl (hb ok.2.1 hd) target hr) hw
theorem wp_ldZ {cl : Cell} {j : Int32} (ok : Ok x Z own nm bytes ml rt R) (A : Arr Z h a cl .boolean) (hj : ¬ (j < 0 ∨ cl.slots.size ≤ j.toNatClampNeg)) (hv : cl.slots[j.toNatClampNeg]? = some v) (hd : decode bytes pc = .ok (.baload, 1)) (hw : WP x n0 Q h k n (pc + 1) L (v :: rest)) : WP x n0 Q h k n pc L (.int j :: .ref a :: rest) :=
  wp_steps (fun T locs target X e hr => X.baloadBooleans ok.1 (by rw [e]; exact A.1) (State.isArrayOf_alike ok.2.2.2.2.2.1.alike A.2.1) A.2.2 hj hv (g := mkF x.m pc L (.int j :: .ref a :: rest)) rfl rfl (hb ok.2.1 hd) target hr) hw
theorem wp_len {cl : Cell} {ty : FieldType} (ok : Ok x Z own nm bytes ml rt R) (A : Arr Z h a cl ty) (hd : decode bytes pc = .ok (.arraylength, 1)) (hw : WP x n0 Q h k n (pc + 1) L (.int cl.slots.size.toInt32 :: rest)) : WP x n0 Q h k n pc L (.ref a :: rest) :=
  wp_steps (fun T locs target X e hr => X.arraylength ok.1 (by rw [e]; exact A.1) (State.isArrayOf_alike ok.2.2.2.2.2.1.alike A.2.1) (g := mkF x.m pc L (.ref a :: rest)) rfl rfl (hb ok.2.1 hd) target hr) hw
end Rules
end Jvm.OwnW
namespace Jvm.OwnW
open Jvm.RoadKit
theorem c_lmod (x y : Int64) (d : Int) (hy : y.toInt = d) : (0 ≤ x.toInt → (x % y).toInt = x.toInt % d) ∧ (x.toInt < 0 → (x % y).toInt = -((-x.toInt) % d)) := by rw [← lrem_mod]; exact c_lrem x y d hy
theorem x_ladd {x y : Int64} (h1 : -9223372036854775808 ≤ x.toInt + y.toInt) (h2 : x.toInt + y.toInt < 9223372036854775808) : (x + y).toInt = x.toInt + y.toInt := by
  have := c_ladd x y; have := (x + y).toInt_lt; have := (x + y).le_toInt; omega
theorem x_lsub {x y : Int64} (h1 : -9223372036854775808 ≤ x.toInt - y.toInt) (h2 : x.toInt - y.toInt < 9223372036854775808) : (x - y).toInt = x.toInt - y.toInt := by
  have := c_lsub x y; have := (x - y).toInt_lt; have := (x - y).le_toInt; omega
theorem x_lmul {x y : Int64} (h1 : -9223372036854775808 ≤ x.toInt * y.toInt) (h2 : x.toInt * y.toInt < 9223372036854775808) : (x * y).toInt = x.toInt * y.toInt := by
  have q := c_lmul x y; have := (x * y).toInt_lt; have := (x * y).le_toInt
  generalize x.toInt * y.toInt = p at *; omega
theorem x_iadd {x y : Int32} (h1 : -2147483648 ≤ x.toInt + y.toInt) (h2 : x.toInt + y.toInt < 2147483648) : (x + y).toInt = x.toInt + y.toInt := by
  have := c_iadd x y; have := (x + y).toInt_lt; have := (x + y).le_toInt; omega
theorem x_isub {x y : Int32} (h1 : -2147483648 ≤ x.toInt - y.toInt) (h2 : x.toInt - y.toInt < 2147483648) : (x - y).toInt = x.toInt - y.toInt := by
  have := c_isub x y; have := (x - y).toInt_lt; have := (x - y).le_toInt; omega
theorem x_imul {x y : Int32} (h1 : -2147483648 ≤ x.toInt * y.toInt) (h2 : x.toInt * y.toInt < 2147483648) : (x * y).toInt = x.toInt * y.toInt := by
  have q := c_imul x y; have := (x * y).toInt_lt; have := (x * y).le_toInt
  generalize x.toInt * y.toInt = p at *; omega
theorem nar01 {z : Int32} (h : z = 0 ∨ z = 1) : nar .boolean z = z := by rcases h with rfl | rfl <;> rfl
end Jvm.OwnW
namespace Jvm.OwnW
open Sem ClassFile Op Lib Jvm.Free Jvm.Stand Jvm.LawKit Jvm.RoadKit Jvm.Free.XT
/-! ## plain steps, by evaluation: a block of instructions from a frame to a frame, with the props that it asks (a branch's direction, a divisor) -/
def ush (x y : Int32) : Int32 := (x.toUInt32 >>> (y &&& 31).toUInt32).toInt32
def ushL (x : Int64) (y : Int32) : Int64 := (x.toUInt64 >>> (y &&& 63).toInt64.toUInt64).toInt64
theorem c_ush (x q : Int32) (k : Nat) (hk : q.toBitVec.toNat % 32 = k) (h0 : 0 < k) : (ush x q).toInt = (x.toInt % 4294967296) / (2 ^ k : Nat) := c_iushr x q k hk h0
theorem c_ushL (x : Int64) (q : Int32) (k : Nat) (hk : q.toBitVec.toNat % 64 = k) (h0 : 0 < k) : (ushL x q).toInt = (x.toInt % 18446744073709551616) / (2 ^ k : Nat) := c_lushr x q k hk h0
abbrev Res : Type := Option (List Prop × Nat × Array Slot × List Value)
def bin32 (f : Int32 → Int32 → Int32) (pc : Nat) (L : Array Slot) : List Value → Res
  | .int y :: .int z :: r => some ([], pc + 1, L, .int (f z y) :: r)
  | _ => none
def bin64 (f : Int64 → Int64 → Int64) (pc : Nat) (L : Array Slot) : List Value → Res
  | .long y :: .long z :: r => some ([], pc + 1, L, .long (f z y) :: r)
  | _ => none
def sh64 (f : Int64 → Int32 → Int64) (pc : Nat) (L : Array Slot) : List Value → Res
  | .int y :: .long z :: r => some ([], pc + 1, L, .long (f z y) :: r)
  | _ => none
def un32 (f : Int32 → Value) (pc : Nat) (L : Array Slot) : List Value → Res
  | .int z :: r => some ([], pc + 1, L, f z :: r)
  | _ => none
def un64 (f : Int64 → Value) (pc : Nat) (L : Array Slot) : List Value → Res
  | .long z :: r => some ([], pc + 1, L, f z :: r)
  | _ => none
def ldK (ok : Value → Bool) (i pc' : Nat) (L : Array Slot) (S : List Value) : Res :=
  match L[i]? with
  | some (.val v) => if ok v = true then some ([], pc', L, v :: S) else none
  | _ => none
def stK (ok : Value → Bool) (i pc' : Nat) (L : Array Slot) : List Value → Res
  | v :: r => if ok v = true then (match storeLocals L i v with | some L' => some ([], pc', L', r) | none => none) else none
  | [] => none
def isI : Value → Bool | .int _ => true | _ => false
def isJ : Value → Bool | .long _ => true | _ => false
def constI : Option Value → Option Int32 | some (.int z) => some z | _ => none
def constJ : Option Value → Option Int64 | some (.long z) => some z | _ => none
def look (K : List (Nat × Value)) (i : Nat) : Option Value := match K with
  | [] => none
  | (j, v) :: r => if j = i then some v else look r i
def jump (pc : Nat) (o : Int) : Option Nat := if 0 ≤ (pc : Int) + o then some ((pc : Int) + o).toNat else none
def br (p : Prop) (b : Bool) (pc : Nat) (o : Int) (L : Array Slot) (S : List Value) : Res :=
  if b = true then (match jump pc o with | some q => some ([p], q, L, S) | none => none) else some ([p], pc + 3, L, S)
def stp (K : List (Nat × Value)) (b : Bool) (i : Instr) (pc : Nat) (L : Array Slot) (S : List Value) : Res :=
  match i with
  | .iconst z => some ([], pc + 1, L, .int (Int32.ofInt z) :: S)
  | .bipush z => some ([], pc + 2, L, .int (Int8.ofInt z).toInt32 :: S)
  | .sipush z => some ([], pc + 3, L, .int (Int16.ofInt z).toInt32 :: S)
  | .lconst z => some ([], pc + 1, L, .long (Int64.ofNat z) :: S)
  | .aconst_null => some ([], pc + 1, L, .null :: S)
  | .ldc j => (match constI (look K j) with | some z => some ([], pc + 2, L, .int z :: S) | none => none)
  | .ldc2_w j => (match constJ (look K j) with | some z => some ([], pc + 3, L, .long z :: S) | none => none)
  | .iload_n j => ldK isI j.val (pc + 1) L S
  | .iload j => ldK isI j (pc + 2) L S
  | .lload_n j => ldK isJ j.val (pc + 1) L S
  | .lload j => ldK isJ j (pc + 2) L S
  | .aload_n j => ldK Value.isRef j.val (pc + 1) L S
  | .aload j => ldK Value.isRef j (pc + 2) L S
  | .istore_n j => stK isI j.val (pc + 1) L S
  | .istore j => stK isI j (pc + 2) L S
  | .lstore_n j => stK isJ j.val (pc + 1) L S
  | .lstore j => stK isJ j (pc + 2) L S
  | .astore_n j => stK Value.isRef j.val (pc + 1) L S
  | .astore j => stK Value.isRef j (pc + 2) L S
  | .iadd => bin32 (fun z y => z + y) pc L S
  | .isub => bin32 (fun z y => z - y) pc L S
  | .imul => bin32 (fun z y => z * y) pc L S
  | .iand => bin32 (fun z y => z &&& y) pc L S
  | .ior => bin32 (fun z y => z ||| y) pc L S
  | .ixor => bin32 (fun z y => z ^^^ y) pc L S
  | .ishl => bin32 (fun z y => z <<< (y &&& 31)) pc L S
  | .ishr => bin32 (fun z y => z >>> (y &&& 31)) pc L S
  | .iushr => bin32 (fun z y => ush z y) pc L S
  | .ladd => bin64 (fun z y => z + y) pc L S
  | .lsub => bin64 (fun z y => z - y) pc L S
  | .lmul => bin64 (fun z y => z * y) pc L S
  | .land => bin64 (fun z y => z &&& y) pc L S
  | .lor => bin64 (fun z y => z ||| y) pc L S
  | .lxor => bin64 (fun z y => z ^^^ y) pc L S
  | .lshl => sh64 (fun z y => z <<< (y &&& 63).toInt64) pc L S
  | .lshr => sh64 (fun z y => z >>> (y &&& 63).toInt64) pc L S
  | .lushr => sh64 (fun z y => ushL z y) pc L S
  | .ineg => un32 (fun z => .int (-z)) pc L S
  | .lneg => un64 (fun z => .long (-z)) pc L S
  | .i2l => un32 (fun z => .long z.toInt64) pc L S
  | .l2i => un64 (fun z => .int z.toInt32) pc L S
  | .i2b => un32 (fun z => .int z.toInt8.toInt32) pc L S
  | .i2c => un32 (fun z => .int z.toUInt32.toUInt16.toUInt32.toInt32) pc L S
  | .i2s => un32 (fun z => .int z.toInt16.toInt32) pc L S
  | .idiv => (match S with | .int y :: .int z :: r => some ([y ≠ 0], pc + 1, L, .int (z / y) :: r) | _ => none)
  | .irem => (match S with | .int y :: .int z :: r => some ([y ≠ 0], pc + 1, L, .int (z % y) :: r) | _ => none)
  | .ldiv => (match S with | .long y :: .long z :: r => some ([y ≠ 0], pc + 1, L, .long (z / y) :: r) | _ => none)
  | .lrem => (match S with | .long y :: .long z :: r => some ([y ≠ 0], pc + 1, L, .long (z % y) :: r) | _ => none)
  | .lcmp => (match S with | .long y :: .long z :: r => some ([], pc + 1, L, .int (cmpL z y) :: r) | _ => none)
  | .pop => (match S with | v :: r => if v.category = 1 then some ([], pc + 1, L, r) else none | _ => none)
  | .dup => (match S with | v :: r => if v.category = 1 then some ([], pc + 1, L, v :: v :: r) else none | _ => none)
  | .dup_x1 => (match S with | v :: w :: r => if v.category = 1 ∧ w.category = 1 then some ([], pc + 1, L, v :: w :: v :: r) else none | _ => none)
  | .dup2 => (match S with | v :: w :: r => if v.category = 1 ∧ w.category = 1 then some ([], pc + 1, L, v :: w :: v :: w :: r) else none | _ => none)
  | .iinc j c => (match L[j]? with | some (.val (.int z)) => (match storeLocals L j (.int (z + Int32.ofInt c)) with | some L' => some ([], pc + 3, L', S) | none => none) | _ => none)
  | .goto o => (match jump pc o with | some q => some ([], q, L, S) | none => none)
  | .ifCond cd o => (match S with | .int z :: r => br (ifCond.holds cd z = b) b pc o L r | _ => none)
  | .if_icmp cd o => (match S with | .int y :: .int z :: r => br (if_icmp.holds cd z y = b) b pc o L r | _ => none)
  | .ifnull o => (match S with | .null :: r => if b = true then br True b pc o L r else none | .ref _ :: r => if b = true then none else br True b pc o L r | _ => none)
  | .ifnonnull o => (match S with | .null :: r => if b = true then none else br True b pc o L r | .ref _ :: r => if b = true then br True b pc o L r else none | _ => none)
  | _ => none
def ilen : Instr → Nat
  | .bipush _ => 2 | .ldc _ => 2 | .iload _ => 2 | .lload _ => 2 | .aload _ => 2 | .istore _ => 2 | .lstore _ => 2 | .astore _ => 2
  | .sipush _ => 3 | .ldc2_w _ => 3 | .iinc _ _ => 3 | .goto _ => 3 | .ifCond _ _ => 3 | .if_icmp _ _ => 3 | .ifnull _ => 3 | .ifnonnull _ => 3
  | _ => 1
def runL (K : List (Nat × Value)) : List (Nat × Instr × Bool) → Nat → Array Slot → List Value → Res
  | [], pc, L, S => some ([], pc, L, S)
  | (q, i, b) :: r, pc, L, S => if q = pc then (match stp K b i pc L S with
      | none => none
      | some (ps, pc', L', S') => match runL K r pc' L' S' with
        | none => none
        | some (ps', t) => some (ps ++ ps', t)) else none
def decs (bytes : ByteArray) (B : List (Nat × Instr × Bool)) : Bool := B.all fun q => decide (decode bytes q.1 = .ok (q.2.1, ilen q.2.1))
def allP : List Prop → Prop
  | [] => True
  | p :: r => p ∧ allP r
theorem allP_append {ps qs : List Prop} (h : allP (ps ++ qs)) : allP ps ∧ allP qs := by
  induction ps with
  | nil => exact ⟨trivial, h⟩
  | cons p r ih => exact ⟨⟨h.1, (ih h.2).1⟩, (ih h.2).2⟩
def Konst (Z : State) (a0 : Array Value) (own : String) : List (Nat × Value) → Prop
  | [] => True
  | (i, v) :: r => ((∃ z, v = .int z ∧ (Jvm.Cond.constant own i z).before a0 Z = true) ∨ (∃ z, v = .long z ∧ (Jvm.Cond.constantLong own i z).before a0 Z = true)) ∧ Konst Z a0 own r
theorem look_spec {Z : State} {a0 : Array Value} {own : String} {K : List (Nat × Value)} (hK : Konst Z a0 own K) {i : Nat} {v : Value} (h : look K i = some v) : (∃ z, v = .int z ∧ (Jvm.Cond.constant own i z).before a0 Z = true) ∨ (∃ z, v = .long z ∧ (Jvm.Cond.constantLong own i z).before a0 Z = true) := by
  induction K with
  | nil => cases h
  | cons q r ih =>
    obtain ⟨j, w⟩ := q
    simp only [look] at h
    split at h
    · rename_i e; subst e; cases h; exact hK.1
    · exact ih hK.2 h
theorem constI_spec {o : Option Value} {z : Int32} (h : constI o = some z) : o = some (.int z) := by
  cases o with
  | none => cases h
  | some v => cases v <;> simp [constI] at h; rw [h]
theorem constJ_spec {o : Option Value} {z : Int64} (h : constJ o = some z) : o = some (.long z) := by
  cases o with
  | none => cases h
  | some v => cases v <;> simp [constJ] at h; rw [h]
theorem ldK_spec {ok : Value → Bool} {i q : Nat} {L : Array Slot} {S : List Value} {ps : List Prop} {pc' : Nat} {L' : Array Slot} {S' : List Value} (h : ldK ok i q L S = some (ps, pc', L', S')) : ∃ v, L[i]? = some (.val v) ∧ ok v = true ∧ pc' = q ∧ L' = L ∧ S' = v :: S := by
  unfold ldK at h
  split at h
  · split at h
    · rename_i v e1 e2; cases h; exact ⟨v, e1, e2, rfl, rfl, rfl⟩
    · cases h
  · cases h
theorem stK_spec {ok : Value → Bool} {i q : Nat} {L : Array Slot} {S : List Value} {ps : List Prop} {pc' : Nat} {L' : Array Slot} {S' : List Value} (h : stK ok i q L S = some (ps, pc', L', S')) : ∃ v, S = v :: S' ∧ ok v = true ∧ pc' = q ∧ storeLocals L i v = some L' := by
  cases S with
  | nil => cases h
  | cons v r =>
    simp only [stK] at h
    split at h
    · split at h
      · rename_i e1 _ _ e2; cases h; exact ⟨v, rfl, e1, rfl, e2⟩
      · cases h
    · cases h
theorem isI_spec {v : Value} (h : isI v = true) : ∃ z, v = .int z := by cases v <;> simp [isI] at h ⊢
theorem isJ_spec {v : Value} (h : isJ v = true) : ∃ z, v = .long z := by cases v <;> simp [isJ] at h ⊢
theorem bin32_spec {f : Int32 → Int32 → Int32} {pc : Nat} {L : Array Slot} {S : List Value} {ps : List Prop} {pc' : Nat} {L' : Array Slot} {S' : List Value} (h : bin32 f pc L S = some (ps, pc', L', S')) : ∃ z y r, S = .int y :: .int z :: r ∧ pc' = pc + 1 ∧ L' = L ∧ S' = .int (f z y) :: r := by
  unfold bin32 at h; split at h
  · cases h; exact ⟨_, _, _, rfl, rfl, rfl, rfl⟩
  · cases h
theorem bin64_spec {f : Int64 → Int64 → Int64} {pc : Nat} {L : Array Slot} {S : List Value} {ps : List Prop} {pc' : Nat} {L' : Array Slot} {S' : List Value} (h : bin64 f pc L S = some (ps, pc', L', S')) : ∃ z y r, S = .long y :: .long z :: r ∧ pc' = pc + 1 ∧ L' = L ∧ S' = .long (f z y) :: r := by
  unfold bin64 at h; split at h
  · cases h; exact ⟨_, _, _, rfl, rfl, rfl, rfl⟩
  · cases h
theorem sh64_spec {f : Int64 → Int32 → Int64} {pc : Nat} {L : Array Slot} {S : List Value} {ps : List Prop} {pc' : Nat} {L' : Array Slot} {S' : List Value} (h : sh64 f pc L S = some (ps, pc', L', S')) : ∃ z y r, S = .int y :: .long z :: r ∧ pc' = pc + 1 ∧ L' = L ∧ S' = .long (f z y) :: r := by
  unfold sh64 at h; split at h
  · cases h; exact ⟨_, _, _, rfl, rfl, rfl, rfl⟩
  · cases h
theorem un32_spec {f : Int32 → Value} {pc : Nat} {L : Array Slot} {S : List Value} {ps : List Prop} {pc' : Nat} {L' : Array Slot} {S' : List Value} (h : un32 f pc L S = some (ps, pc', L', S')) : ∃ z r, S = .int z :: r ∧ pc' = pc + 1 ∧ L' = L ∧ S' = f z :: r := by
  unfold un32 at h; split at h
  · cases h; exact ⟨_, _, rfl, rfl, rfl, rfl⟩
  · cases h
theorem un64_spec {f : Int64 → Value} {pc : Nat} {L : Array Slot} {S : List Value} {ps : List Prop} {pc' : Nat} {L' : Array Slot} {S' : List Value} (h : un64 f pc L S = some (ps, pc', L', S')) : ∃ z r, S = .long z :: r ∧ pc' = pc + 1 ∧ L' = L ∧ S' = f z :: r := by
  unfold un64 at h; split at h
  · cases h; exact ⟨_, _, rfl, rfl, rfl, rfl⟩
  · cases h
theorem jump_spec {pc q : Nat} {o : Int} (h : jump pc o = some q) : 0 ≤ (pc : Int) + o ∧ ((pc : Int) + o).toNat = q := by
  unfold jump at h; split at h
  · cases h; exact ⟨by assumption, rfl⟩
  · cases h
theorem br_spec {p : Prop} {b : Bool} {pc : Nat} {o : Int} {L : Array Slot} {S : List Value} {ps : List Prop} {pc' : Nat} {L' : Array Slot} {S' : List Value} (h : br p b pc o L S = some (ps, pc', L', S')) : ps = [p] ∧ L' = L ∧ S' = S ∧ ((b = true ∧ jump pc o = some pc') ∨ (b = false ∧ pc' = pc + 3)) := by
  unfold br at h; split at h
  · rename_i e; split at h
    · rename_i e2; cases h; exact ⟨rfl, rfl, rfl, Or.inl ⟨e, e2⟩⟩
    · cases h
  · rename_i e; cases h; exact ⟨rfl, rfl, rfl, Or.inr ⟨by simpa using e, rfl⟩⟩
section Run
variable {x : Cx} {Z : State} {own nm : String} {bytes : ByteArray} {ml : Nat} {rt : Option FieldType} {R : Room} {n0 : Nat} {Q : Post} {h : Heap} {k n : Nat} {pc pc' : Nat} {L L' : Array Slot} {S S' rest : List Value} {a0 : Array Value} {K : List (Nat × Value)} {ps : List Prop}
theorem stp_ok (ok : Ok x Z own nm bytes ml rt R) (hK : Konst Z a0 own K) {b : Bool} {i : Instr} (hd : decode bytes pc = .ok (i, ilen i)) (hs : stp K b i pc L S = some (ps, pc', L', S')) (hp : allP ps)
    {T : State} {locs : List Loc} {target : State} (X : Sd x T locs k n) (hr : Steps x.p.tables x.e x.below (T.setTop (mkF x.m pc' L' S')) target) : Steps x.p.tables x.e x.below (T.setTop (mkF x.m pc L S)) target := by
  obtain ⟨hx, hby, -, hown, -, hZ, -⟩ := ok
  have hd' := hb hby hd
  have hA : At T x.m x.c x.below := X.here
  cases i
  case iconst z => cases hs; exact XS.iconst hA hx rfl hd' hr
  case bipush z => cases hs; exact XS.bipush hA hx rfl hd' hr
  case sipush z => cases hs; exact XS.sipush hA hx rfl hd' hr
  case lconst z => cases hs; exact XS.lconst hA hx rfl hd' hr
  case aconst_null => cases hs; exact XS.aconstNull hA hx rfl hd' hr
  case ldc j =>
    simp only [stp] at hs
    split at hs
    · rename_i e
      cases hs
      rcases look_spec hK (constI_spec e) with ⟨z, e1, e2⟩ | ⟨z, e1, e2⟩
      · cases e1; exact X.ldcI hx hown (mvT hZ e2) rfl hd' hr
      · cases e1
    · cases hs
  case ldc2_w j =>
    simp only [stp] at hs
    split at hs
    · rename_i e
      cases hs
      rcases look_spec hK (constJ_spec e) with ⟨z, e1, e2⟩ | ⟨z, e1, e2⟩
      · cases e1
      · cases e1; exact X.ldc2J hx hown (mvT hZ e2) rfl hd' hr
    · cases hs
  case iload_n j => obtain ⟨v, e1, e2, rfl, rfl, rfl⟩ := ldK_spec hs; obtain ⟨z, rfl⟩ := isI_spec e2; exact XS.iloadN hA hx rfl hd' e1 hr
  case iload j => obtain ⟨v, e1, e2, rfl, rfl, rfl⟩ := ldK_spec hs; obtain ⟨z, rfl⟩ := isI_spec e2; exact XS.iload hA hx rfl hd' e1 hr
  case lload_n j => obtain ⟨v, e1, e2, rfl, rfl, rfl⟩ := ldK_spec hs; obtain ⟨z, rfl⟩ := isJ_spec e2; exact XS.lloadN hA hx rfl hd' e1 hr
  case lload j => obtain ⟨v, e1, e2, rfl, rfl, rfl⟩ := ldK_spec hs; obtain ⟨z, rfl⟩ := isJ_spec e2; exact XS.lload hA hx rfl hd' e1 hr
  case aload_n j => obtain ⟨v, e1, e2, rfl, rfl, rfl⟩ := ldK_spec hs; exact XS.aloadN hA hx rfl hd' e1 e2 hr
  case aload j => obtain ⟨v, e1, e2, rfl, rfl, rfl⟩ := ldK_spec hs; exact XS.aload hA hx rfl hd' e1 e2 hr
  case istore_n j => obtain ⟨v, rfl, e2, rfl, e3⟩ := stK_spec hs; obtain ⟨z, rfl⟩ := isI_spec e2; exact XS.istoreN hA hx rfl hd' rfl e3 hr
  case istore j => obtain ⟨v, rfl, e2, rfl, e3⟩ := stK_spec hs; obtain ⟨z, rfl⟩ := isI_spec e2; exact XS.istore hA hx rfl hd' rfl e3 hr
  case lstore_n j => obtain ⟨v, rfl, e2, rfl, e3⟩ := stK_spec hs; obtain ⟨z, rfl⟩ := isJ_spec e2; exact XS.lstoreN hA hx rfl hd' rfl e3 hr
  case lstore j => obtain ⟨v, rfl, e2, rfl, e3⟩ := stK_spec hs; obtain ⟨z, rfl⟩ := isJ_spec e2; exact XS.lstore hA hx rfl hd' rfl e3 hr
  case astore_n j => obtain ⟨v, rfl, e2, rfl, e3⟩ := stK_spec hs; exact XS.astoreN hA hx rfl hd' rfl e2 e3 hr
  case astore j => obtain ⟨v, rfl, e2, rfl, e3⟩ := stK_spec hs; exact XS.astore hA hx rfl hd' rfl e2 e3 hr
  case iadd => obtain ⟨z, y, r, rfl, rfl, rfl, rfl⟩ := bin32_spec hs; exact XS.iadd hA hx rfl hd' rfl hr
  case isub => obtain ⟨z, y, r, rfl, rfl, rfl, rfl⟩ := bin32_spec hs; exact XS.isub hA hx rfl hd' rfl hr
  case imul => obtain ⟨z, y, r, rfl, rfl, rfl, rfl⟩ := bin32_spec hs; exact XS.imul hA hx rfl hd' rfl hr
  case iand => obtain ⟨z, y, r, rfl, rfl, rfl, rfl⟩ := bin32_spec hs; exact XS.iand hA hx rfl hd' rfl hr
  case ior => obtain ⟨z, y, r, rfl, rfl, rfl, rfl⟩ := bin32_spec hs; exact XS.ior hA hx rfl hd' rfl hr
  case ixor => obtain ⟨z, y, r, rfl, rfl, rfl, rfl⟩ := bin32_spec hs; exact XS.ixor hA hx rfl hd' rfl hr
  case ishl => obtain ⟨z, y, r, rfl, rfl, rfl, rfl⟩ := bin32_spec hs; exact XS.ishl hA hx rfl hd' rfl hr
  case ishr => obtain ⟨z, y, r, rfl, rfl, rfl, rfl⟩ := bin32_spec hs; exact XS.ishr hA hx rfl hd' rfl hr
  case iushr => obtain ⟨z, y, r, rfl, rfl, rfl, rfl⟩ := bin32_spec hs; exact XS.iushr hA hx rfl hd' rfl hr
  case ladd => obtain ⟨z, y, r, rfl, rfl, rfl, rfl⟩ := bin64_spec hs; exact XS.ladd hA hx rfl hd' rfl hr
  case lsub => obtain ⟨z, y, r, rfl, rfl, rfl, rfl⟩ := bin64_spec hs; exact XS.lsub hA hx rfl hd' rfl hr
  case lmul => obtain ⟨z, y, r, rfl, rfl, rfl, rfl⟩ := bin64_spec hs; exact XS.lmul hA hx rfl hd' rfl hr
  case land => obtain ⟨z, y, r, rfl, rfl, rfl, rfl⟩ := bin64_spec hs; exact XS.land hA hx rfl hd' rfl hr
  case lor => obtain ⟨z, y, r, rfl, rfl, rfl, rfl⟩ := bin64_spec hs; exact XS.lor hA hx rfl hd' rfl hr
  case lxor => obtain ⟨z, y, r, rfl, rfl, rfl, rfl⟩ := bin64_spec hs; exact XS.lxor hA hx rfl hd' rfl hr
  case lshl => obtain ⟨z, y, r, rfl, rfl, rfl, rfl⟩ := sh64_spec hs; exact XS.lshl hA hx rfl hd' rfl hr
  case lshr => obtain ⟨z, y, r, rfl, rfl, rfl, rfl⟩ := sh64_spec hs; exact XS.lshr hA hx rfl hd' rfl hr
  case lushr => obtain ⟨z, y, r, rfl, rfl, rfl, rfl⟩ := sh64_spec hs; exact XS.lushr hA hx rfl hd' rfl hr
  case ineg => obtain ⟨z, r, rfl, rfl, rfl, rfl⟩ := un32_spec hs; exact XS.ineg hA hx rfl hd' rfl hr
  case lneg => obtain ⟨z, r, rfl, rfl, rfl, rfl⟩ := un64_spec hs; exact XS.lneg hA hx rfl hd' rfl hr
  case i2l => obtain ⟨z, r, rfl, rfl, rfl, rfl⟩ := un32_spec hs; exact XS.i2l hA hx rfl hd' rfl hr
  case l2i => obtain ⟨z, r, rfl, rfl, rfl, rfl⟩ := un64_spec hs; exact XS.l2i hA hx rfl hd' rfl hr
  case i2b => obtain ⟨z, r, rfl, rfl, rfl, rfl⟩ := un32_spec hs; exact XS.i2b hA hx rfl hd' rfl hr
  case i2c => obtain ⟨z, r, rfl, rfl, rfl, rfl⟩ := un32_spec hs; exact XS.i2c hA hx rfl hd' rfl hr
  case i2s => obtain ⟨z, r, rfl, rfl, rfl, rfl⟩ := un32_spec hs; exact XS.i2s hA hx rfl hd' rfl hr
  case idiv =>
    simp only [stp] at hs
    split at hs
    · cases hs; exact XS.idiv hA hx rfl hd' rfl hp.1 hr
    · cases hs
  case irem =>
    simp only [stp] at hs
    split at hs
    · cases hs; exact iremM X hx rfl hd' rfl hp.1 hr
    · cases hs
  case ldiv =>
    simp only [stp] at hs
    split at hs
    · cases hs; exact XS.ldiv hA hx rfl hd' rfl hp.1 hr
    · cases hs
  case lrem =>
    simp only [stp] at hs
    split at hs
    · rename_i y z r
      cases hs
      have q : z - z / y * y = z % y := lrem_mod z y
      exact XS.lrem hA hx rfl hd' rfl hp.1 (by rw [q]; exact hr)
    · cases hs
  case lcmp =>
    simp only [stp] at hs
    split at hs
    · cases hs; exact XS.lcmp hA hx rfl hd' rfl hr
    · cases hs
  case pop =>
    simp only [stp] at hs
    split at hs
    · split at hs
      · rename_i e; cases hs; exact XS.pop hA hx rfl hd' rfl e hr
      · cases hs
    · cases hs
  case dup =>
    simp only [stp] at hs
    split at hs
    · split at hs
      · rename_i e; cases hs; exact XS.dup hA hx rfl hd' rfl e hr
      · cases hs
    · cases hs
  case dup_x1 =>
    simp only [stp] at hs
    split at hs
    · split at hs
      · rename_i e; cases hs; exact XS.dupX1 hA hx rfl hd' rfl e.1 e.2 hr
      · cases hs
    · cases hs
  case dup2 =>
    simp only [stp] at hs
    split at hs
    · split at hs
      · rename_i e; cases hs; exact XT.dup2 hA hx rfl hd' rfl e.1 e.2 hr
      · cases hs
    · cases hs
  case iinc j c =>
    simp only [stp] at hs
    split at hs
    · rename_i e1
      split at hs
      · rename_i e2; cases hs; exact XS.iinc hA hx rfl hd' e1 e2 hr
      · cases hs
    · cases hs
  case goto o =>
    simp only [stp] at hs
    split at hs
    · rename_i e; cases hs; obtain ⟨e1, e2⟩ := jump_spec e; exact XS.goto hA hx rfl rfl hd' e1 e2 hr
    · cases hs
  case ifCond cd o =>
    simp only [stp] at hs
    split at hs
    · obtain ⟨rfl, rfl, rfl, ⟨rfl, e⟩ | ⟨rfl, rfl⟩⟩ := br_spec hs
      · obtain ⟨e1, e2⟩ := jump_spec e; exact XS.ifYes hA hx rfl rfl hd' rfl hp.1 e1 e2 hr
      · exact XS.ifNo hA hx rfl hd' rfl hp.1 hr
    · cases hs
  case if_icmp cd o =>
    simp only [stp] at hs
    split at hs
    · obtain ⟨rfl, rfl, rfl, ⟨rfl, e⟩ | ⟨rfl, rfl⟩⟩ := br_spec hs
      · obtain ⟨e1, e2⟩ := jump_spec e; exact XS.icmpYes hA hx rfl rfl hd' rfl hp.1 e1 e2 hr
      · exact XS.icmpNo hA hx rfl hd' rfl hp.1 hr
    · cases hs
  case ifnull o =>
    simp only [stp] at hs
    split at hs
    · split at hs
      · rename_i e0; subst e0
        obtain ⟨rfl, rfl, rfl, ⟨-, e⟩ | ⟨e, -⟩⟩ := br_spec hs
        · obtain ⟨e1, e2⟩ := jump_spec e; exact XS.ifnullYes hA hx rfl rfl hd' rfl e1 e2 hr
        · cases e
      · cases hs
    · split at hs
      · cases hs
      · rename_i e0
        obtain ⟨rfl, rfl, rfl, ⟨e, -⟩ | ⟨-, rfl⟩⟩ := br_spec hs
        · exact absurd e e0
        · exact XS.ifnullNo hA hx rfl hd' rfl hr
    · cases hs
  case ifnonnull o =>
    simp only [stp] at hs
    split at hs
    · split at hs
      · cases hs
      · rename_i e0
        obtain ⟨rfl, rfl, rfl, ⟨e, -⟩ | ⟨-, rfl⟩⟩ := br_spec hs
        · exact absurd e e0
        · exact XS.ifnonnullNo hA hx rfl hd' rfl hr
    · split at hs
      · rename_i e0; subst e0
        obtain ⟨rfl, rfl, rfl, ⟨-, e⟩ | ⟨e, -⟩⟩ := br_spec hs
        · obtain ⟨e1, e2⟩ := jump_spec e; exact XS.ifnonnullYes hA hx rfl rfl hd' rfl e1 e2 hr
        · cases e
      · cases hs
    · cases hs
  all_goals cases hs
theorem run_ok (ok : Ok x Z own nm bytes ml rt R) (hK : Konst Z a0 own K) : ∀ (B : List (Nat × Instr × Bool)) {pc : Nat} {L : Array Slot} {S : List Value} {ps : List Prop} {pc' : Nat} {L' : Array Slot} {S' : List Value}, decs bytes B = true → runL K B pc L S = some (ps, pc', L', S') → allP ps →
    ∀ {T : State} {locs : List Loc} {target : State}, Sd x T locs k n → Steps x.p.tables x.e x.below (T.setTop (mkF x.m pc' L' S')) target → Steps x.p.tables x.e x.below (T.setTop (mkF x.m pc L S)) target
  | [], pc, L, S, ps, pc', L', S', _, hr, _, T, locs, target, X, st => by cases hr; exact st
  | (q, i, b) :: r, pc, L, S, ps, pc', L', S', hd, hr, hp, T, locs, target, X, st => by
    simp only [decs, List.all_cons, Bool.and_eq_true, decide_eq_true_eq] at hd
    simp only [runL] at hr
    split at hr
    · rename_i e; subst e
      split at hr
      · cases hr
      · rename_i ps1 pc1 L1 S1 e1
        split at hr
        · cases hr
        · rename_i ps2 t e2
          cases hr
          obtain ⟨p1, p2⟩ := allP_append hp
          exact stp_ok ok hK hd.1 e1 p1 X (run_ok ok hK r hd.2 e2 p2 X st)
    · cases hr
theorem wp_run (ok : Ok x Z own nm bytes ml rt R) (hK : Konst Z a0 own K) {B : List (Nat × Instr × Bool)} (hd : decs bytes B = true) (hr : runL K B pc L S = some (ps, pc', L', S')) (hp : allP ps) (w : WP x n0 Q h k n pc' L' S') : WP x n0 Q h k n pc L S :=
  wp_steps (fun T locs target X _ st => run_ok ok hK B hd hr hp X st) w
end Run
end Jvm.OwnW
namespace Jvm.OwnW
open Sem ClassFile Op Lib Jvm.Free Jvm.Stand Jvm.LawKit Jvm.RoadKit Jvm.Free.XT
/-! ## arrays by length and content -/
def Ar (Z : State) (h : Heap) (a : Addr) (ty : FieldType) (n : Nat) (f : Nat → Value) : Prop := ∃ c : Cell, Arr Z h a c ty ∧ c.slots.size = n ∧ ∀ i, i < n → c.slots[i]? = some (f i)
theorem idx_of {j : Int32} {i : Nat} (hj : j.toInt = i) : j.toNatClampNeg = i ∧ ¬ j < 0 := by
  refine ⟨by simp only [Int32.toNatClampNeg, hj]; exact Int.toNat_natCast i, ?_⟩
  rw [Int32.lt_iff_toInt_lt, hj]; show ¬ (i : Int) < 0; omega
theorem idx_in' {j : Int32} {i n : Nat} (hj : j.toInt = i) (hi : i < n) : ¬ (j < 0 ∨ n ≤ j.toNatClampNeg) := by
  obtain ⟨q1, q2⟩ := idx_of hj
  rw [q1]; intro q; rcases q with q | q
  · exact q2 q
  · omega
section Facts
variable {Z : State} {h h' : Heap} {a b : Addr} {ty : FieldType} {n : Nat} {f g : Nat → Value} {sl : Nat} {v : Value} {ws : List Addr}
theorem Ar.lt (A : Ar Z h a ty n f) : a < h.size := by obtain ⟨c, A, -⟩ := A; exact A.lt
theorem Ar.ext (A : Ar Z h a ty n f) (E : Ext h h') : Ar Z h' a ty n f := by obtain ⟨c, A, r⟩ := A; exact ⟨c, A.ext E, r⟩
theorem Ar.other (A : Ar Z h b ty n f) (W : Wr h h' a sl v) (q : b ≠ a) : Ar Z h' b ty n f := by obtain ⟨c, A, r⟩ := A; exact ⟨c, A.other W q, r⟩
theorem Ar.keep (A : Ar Z h a ty n f) (K : Keep h h' ws) (q : a ∉ ws) : Ar Z h' a ty n f := by obtain ⟨c, A, r⟩ := A; exact ⟨c, ⟨K.2.1 a c A.1 q, A.2⟩, r⟩
theorem Ar.cong (A : Ar Z h a ty n f) (e : ∀ i, i < n → f i = g i) : Ar Z h a ty n g := by obtain ⟨c, A, s, r⟩ := A; exact ⟨c, A, s, fun i hi => by rw [← e i hi]; exact r i hi⟩
theorem Ar.same (A : Ar Z h a ty n f) (W : Wr h h' a sl v) (hs : sl < n) : Ar Z h' a ty n (fun i => if i = sl then v else f i) := by
  obtain ⟨c, A, s, r⟩ := A
  refine ⟨_, A.same W, by rw [sz_set]; exact s, fun i hi => ?_⟩
  show (c.setSlot sl v).slots[i]? = some (if i = sl then v else f i)
  by_cases e : i = sl
  · subst e; rw [if_pos rfl]; simp [Cell.setSlot, s, hs]
  · rw [if_neg e]; simp only [Cell.setSlot]; rw [Array.getElem?_setIfInBounds_ne (Ne.symm e)]; exact r i hi
theorem Ar.new {cA : ClassId} {z : Int32} (A : Arr Z h a (newA cA ty z) ty) (hz : z.toNatClampNeg = n) : Ar Z h a ty n (fun _ => defaultValue ty) := ⟨_, A, by rw [sz_new]; exact hz, fun i hi => by simp [newA, hz, hi]⟩
theorem Ar.toArv (A : Ar Z h a ty n f) (hn : n < 2 ^ 31) (hf : ∀ i, i < n → fits ty (f i) = true) (dv : Value) : ∃ k, Arv Z h a k ty (Int32.ofNat n) ((List.range n).map f) dv := by
  obtain ⟨c, A, s, r⟩ := A
  have e : (Int32.ofNat n).toInt = n := len_toInt hn
  obtain ⟨q1, q2⟩ := idx_of e
  have gd : ∀ i, i < n → ((List.range n).map f).getD i dv = f i := fun i hi => by simp [hi]
  exact ⟨c.cls, c, A, rfl, by rw [s, q1], q2, fun i hi => by rw [s] at hi; rw [gd i hi]; exact r i hi, fun i hi => by rw [s] at hi; rw [gd i hi]; exact hf i hi⟩
theorem Ar.ofArv {k : ClassId} {z : Int32} {vs : List Value} {dv : Value} (A : Arv Z h a k ty z vs dv) (hz : z.toNatClampNeg = n) : Ar Z h a ty n (fun i => vs.getD i dv) := by
  obtain ⟨c, A, -, s, -, H, -⟩ := A
  exact ⟨c, A, s.trans hz, fun i hi => H i (by rw [s, hz]; exact hi)⟩
theorem ne_ar {C : String} {a0 : Array Value} {k : Nat} (F : Exa Z h a C) (wi : (Jvm.Cond.instantiable C k).before a0 Z = true) (G : Ar Z h b ty n f) : a ≠ b := by obtain ⟨c, A, -⟩ := G; exact ne_arr F wi A
end Facts
section Rules
variable {x : Cx} {Z : State} {own nm : String} {bytes : ByteArray} {ml : Nat} {rt : Option FieldType} {R : Room} {n0 : Nat} {Q : Post} {h : Heap} {k n : Nat} {pc : Nat} {L : Array Slot} {S rest : List Value} {a0 : Array Value} {a : Addr} {v : Value} {len i : Nat} {f : Nat → Value} {j : Int32}
theorem wp_aI (ok : Ok x Z own nm bytes ml rt R) (A : Ar Z h a .int len f) (hj : j.toInt = i) (hi : i < len) (hv : f i = v) (hd : decode bytes pc = .ok (.iaload, 1)) (hw : WP x n0 Q h k n (pc + 1) L (v :: rest)) : WP x n0 Q h k n pc L (.int j :: .ref a :: rest) := by
  obtain ⟨c, A, s, r⟩ := A
  exact wp_ldI ok A (by rw [s]; exact idx_in' hj hi) (by rw [(idx_of hj).1, ← hv]; exact r i hi) hd hw
theorem wp_aJ (ok : Ok x Z own nm bytes ml rt R) (A : Ar Z h a .long len f) (hj : j.toInt = i) (hi : i < len) (hv : f i = v) (hd : decode bytes pc = .ok (.laload, 1)) (hw : WP x n0 Q h k n (pc + 1) L (v :: rest)) : WP x n0 Q h k n pc L (.int j :: .ref a :: rest) := by
  obtain ⟨c, A, s, r⟩ := A
  exact wp_ldJ ok A (by rw [s]; exact idx_in' hj hi) (by rw [(idx_of hj).1, ← hv]; exact r i hi) hd hw
theorem wp_aB (ok : Ok x Z own nm bytes ml rt R) (A : Ar Z h a .byte len f) (hj : j.toInt = i) (hi : i < len) (hv : f i = v) (hd : decode bytes pc = .ok (.baload, 1)) (hw : WP x n0 Q h k n (pc + 1) L (v :: rest)) : WP x n0 Q h k n pc L (.int j :: .ref a :: rest) := by
  obtain ⟨c, A, s, r⟩ := A
  exact wp_ldB ok A (by rw [s]; exact idx_in' hj hi) (by rw [(idx_of hj).1, ← hv]; exact r i hi) hd hw
theorem wp_aZ (ok : Ok x Z own nm bytes ml rt R) (A : Ar Z h a .boolean len f) (hj : j.toInt = i) (hi : i < len) (hv : f i = v) (hd : decode bytes pc = .ok (.baload, 1)) (hw : WP x n0 Q h k n (pc + 1) L (v :: rest)) : WP x n0 Q h k n pc L (.int j :: .ref a :: rest) := by
  obtain ⟨c, A, s, r⟩ := A
  exact wp_ldZ ok A (by rw [s]; exact idx_in' hj hi) (by rw [(idx_of hj).1, ← hv]; exact r i hi) hd hw
theorem wp_alen {ty : FieldType} (ok : Ok x Z own nm bytes ml rt R) (A : Ar Z h a ty len f) (hd : decode bytes pc = .ok (.arraylength, 1)) (hw : WP x n0 Q h k n (pc + 1) L (.int (Int32.ofNat len) :: rest)) : WP x n0 Q h k n pc L (.ref a :: rest) := by
  obtain ⟨c, A, s, r⟩ := A
  refine wp_len ok A hd ?_
  rw [s]; exact hw
theorem wp_sI {z : Int32} (ok : Ok x Z own nm bytes ml rt R) (A : Ar Z h a .int len f) (hj : j.toInt = i) (hi : i < len) (hd : decode bytes pc = .ok (.iastore, 1)) (ha : n0 ≤ a)
    (hw : ∀ h', Wr h h' a i (.int z) → Ar Z h' a .int len (fun q => if q = i then .int z else f q) → WP x n0 Q h' k n (pc + 1) L rest) : WP x n0 Q h k n pc L (.int z :: .int j :: .ref a :: rest) := by
  have A0 := A
  obtain ⟨c, A, s, r⟩ := A
  refine wp_stI ok A (by rw [s]; exact idx_in' hj hi) hd ha ?_
  rw [(idx_of hj).1]
  exact fun h' W => hw h' W (A0.same W hi)
theorem wp_sJ {z : Int64} (ok : Ok x Z own nm bytes ml rt R) (A : Ar Z h a .long len f) (hj : j.toInt = i) (hi : i < len) (hd : decode bytes pc = .ok (.lastore, 1)) (ha : n0 ≤ a)
    (hw : ∀ h', Wr h h' a i (.long z) → Ar Z h' a .long len (fun q => if q = i then .long z else f q) → WP x n0 Q h' k n (pc + 1) L rest) : WP x n0 Q h k n pc L (.long z :: .int j :: .ref a :: rest) := by
  have A0 := A
  obtain ⟨c, A, s, r⟩ := A
  refine wp_stJ ok A (by rw [s]; exact idx_in' hj hi) hd ha ?_
  rw [(idx_of hj).1]
  exact fun h' W => hw h' W (A0.same W hi)
theorem wp_sB {z : Int32} (ok : Ok x Z own nm bytes ml rt R) (A : Ar Z h a .byte len f) (hj : j.toInt = i) (hi : i < len) (hd : decode bytes pc = .ok (.bastore, 1)) (ha : n0 ≤ a)
    (hw : ∀ h', Wr h h' a i (.int (nar .byte z)) → Ar Z h' a .byte len (fun q => if q = i then .int (nar .byte z) else f q) → WP x n0 Q h' k n (pc + 1) L rest) : WP x n0 Q h k n pc L (.int z :: .int j :: .ref a :: rest) := fun T locs X e N => by
  have A0 := A
  obtain ⟨c, A, s, r⟩ := A
  obtain ⟨T', h', X', e', W, st⟩ := stB X ok.1 ok.2.2.2.2.2.1 e A (by rw [s]; exact idx_in' hj hi) (g := mkF x.m pc L (.int z :: .int j :: .ref a :: rest)) rfl rfl (hb ok.2.1 hd)
  have W' := W
  rw [(idx_of hj).1] at W'
  obtain ⟨s₂, o, h1, r⟩ := hw h' W' (A0.same W' hi) T' _ X' e' (Fr.snoc X' N ha)
  exact ⟨s₂, o, st _ h1, r⟩
theorem wp_sZ {z : Int32} (ok : Ok x Z own nm bytes ml rt R) (A : Ar Z h a .boolean len f) (hj : j.toInt = i) (hi : i < len) (hd : decode bytes pc = .ok (.bastore, 1)) (ha : n0 ≤ a)
    (hw : ∀ h', Wr h h' a i (.int (nar .boolean z)) → Ar Z h' a .boolean len (fun q => if q = i then .int (nar .boolean z) else f q) → WP x n0 Q h' k n (pc + 1) L rest) : WP x n0 Q h k n pc L (.int z :: .int j :: .ref a :: rest) := fun T locs X e N => by
  have A0 := A
  obtain ⟨c, A, s, r⟩ := A
  obtain ⟨T', h', X', e', W, st⟩ := stZ X ok.1 ok.2.2.2.2.2.1 e A (by rw [s]; exact idx_in' hj hi) (g := mkF x.m pc L (.int z :: .int j :: .ref a :: rest)) rfl rfl (hb ok.2.1 hd)
  have W' := W
  rw [(idx_of hj).1] at W'
  obtain ⟨s₂, o, h1, r⟩ := hw h' W' (A0.same W' hi) T' _ X' e' (Fr.snoc X' N ha)
  exact ⟨s₂, o, st _ h1, r⟩
theorem wp_ldcF {b : UInt32} {index : Nat} (ok : Ok x Z own nm bytes ml rt R) (w : (Jvm.Cond.constantFloat own index b).before a0 Z = true) (hd : decode bytes pc = .ok (.ldc index, 2)) (hw : WP x n0 Q h k n (pc + 2) L (.float b :: S)) : WP x n0 Q h k n pc L S :=
  wp_steps (fun T locs target X e hr => X.ldcFloatC ok.1 ok.2.2.2.1 (mvT ok.2.2.2.2.2.1 w) (g := mkF x.m pc L S) rfl (hb ok.2.1 hd) target hr) hw
theorem wp_nA {aty : ArrayType} {z : Int32} {cap : Nat} (ok : Ok x Z own nm bytes ml rt R) (w : (Jvm.Cond.arrayClass (newarray.typeOf aty)).before a0 Z = true) (hd : decode bytes pc = .ok (.newarray aty, 2)) (hz : z.toInt = cap) (hb8 : cap * 8 ≤ 536870912) (hk : k + 1 ≤ R.cells) (hn : n + cap ≤ R.slots)
    (hw : ∀ h' a, a = h.size → Ext h h' → Ar Z h' a (newarray.typeOf aty) cap (fun _ => defaultValue (newarray.typeOf aty)) → WP x n0 Q h' (k + 1) (n + cap) (pc + 2) L (.ref a :: rest)) : WP x n0 Q h k n pc L (.int z :: rest) :=
  wp_newA ok w hd (idx_of hz).2 (Nat.le_of_eq (idx_of hz).1) hb8 hk hn fun h' a cA e E A => hw h' a e E (Ar.new A (idx_of hz).1)
end Rules
end Jvm.OwnW
namespace Jvm.OwnW
open Jvm.RoadKit
def lst (vs : List Value) : Nat → Value := fun i => vs.getD i .null
theorem lst_set {Z : State} {h : Heap} {a : Addr} {ty : ClassFile.FieldType} {n i : Nat} {v : Value} {vs vs' : List Value} (A : Ar Z h a ty n (fun q => if q = i then v else lst vs q)) (hn : vs.length = n) (hi : i < n) (e : vs.set i v = vs') : Ar Z h a ty n (lst vs') := A.cong fun q hq => by
  subst e
  by_cases p : q = i
  · subst p; rw [if_pos rfl]; simp [lst, hn, hi]
  · rw [if_neg p]; simp only [lst, List.getD_eq_getElem?_getD]; rw [List.getElem?_set_ne (Ne.symm p)]
theorem lst_new {Z : State} {h : Heap} {a : Addr} {ty : ClassFile.FieldType} {n : Nat} {v : Value} {vs : List Value} (A : Ar Z h a ty n (fun _ => v)) (e : List.replicate n v = vs) : Ar Z h a ty n (lst vs) := A.cong fun q hq => by
  subst e; simp [lst, hq]
end Jvm.OwnW
namespace Jvm.Pilot.@@N@@
open Jvm Jvm.ClassFile Sem Op Lib Jvm.Free Jvm.Stand Jvm.LawKit Jvm.RoadKit Bundle Jvm.OwnW Jvm.Free.XT Jvm.Pilot.@@N@@.Jvm.D
theorem own_div (n s : Int) (h1 : 0 < s) (h0 : 0 ≤ n) : (2 * n + s) / (2 * s) = n / s + (if 2 * (n % s) < s then 0 else 1) := by
  have e := Int.emod_add_mul_ediv n s
  have r1 := Int.emod_nonneg n (show s ≠ 0 by omega)
  have r2 := Int.emod_lt_of_pos n h1
  have e2 : 2 * n + s = (2 * (n % s) + s) + (n / s) * (2 * s) := by
    have q : (n / s) * (2 * s) = 2 * (s * (n / s)) := by rw [← Int.mul_assoc, Int.mul_comm (n / s) 2, Int.mul_assoc, Int.mul_comm (n / s) s]
    rw [q]; omega
  rw [e2, Int.add_mul_ediv_right _ _ (show 2 * s ≠ 0 by omega)]
  split
  · rename_i c; rw [Int.ediv_eq_zero_of_lt (by omega) (by omega)]; omega
  · rename_i c
    have e3 : 2 * (n % s) + s = (2 * (n % s) - s) + 1 * (2 * s) := by omega
    rw [e3, Int.add_mul_ediv_right _ _ (show 2 * s ≠ 0 by omega), Int.ediv_eq_zero_of_lt (by omega) (by omega)]; omega

def k_abm : List (Nat × Value) := []
def Q_abm (Z : State) (a : Addr) (h0 : Heap) : Post := fun v h => v = none ∧ h0 = h
theorem pn_abm : plainFor (⟨"java/util/AbstractMap", "<init>", "()V"⟩ : MethodName) = true := by first | (refine plainFor_of_name ?_; simp [plainName, overriddenIn]; done) | decide +kernel
set_option maxRecDepth 65536 in
set_option maxHeartbeats 40000000 in
theorem c_abm (l : Launch) (Z : State) (a0 : Array Value) (hw : ∀ d ∈ tables_1, d.before a0 Z = true) (a : Addr) (h0 : Heap) (n0 : Nat) (Z0 : n0 ≤ h0.size) :
    Con l Z (⟨"java/util/AbstractMap", "<init>", "()V"⟩ : MethodName) jdk_71_method_1_code 1 (none : Option FieldType) ({ frames := 1, cells := 0, slots := 0, locals := 12 } : Room) #[(.ref a)] h0 n0 (Q_abm Z a h0) [] := by
  refine con_of_wp pn_abm (L0 := #[.val ((.ref a))]) (fun m => by first | (simp [entryFrame, mkF, argsToLocals, Value.category]; done) | rfl) (fun X hl ok => ?_)
  subst hl
  have hK : Konst Z a0 "java/util/AbstractMap" k_abm := trivial
  refine wp_run ok hK (B := [(0, .aload_n 0, false)]) (by decide +kernel) (pc' := 1) (L' := #[.val ((.ref a))]) (S' := [(.ref a)]) rfl trivial ?_
  refine wp_initO ok (wd hw 25 rfl) (wd hw 8 rfl) (wd hw 9 rfl) (by rfl) (by decide +kernel) (by decide) (Nat.le_of_ble_eq_true rfl) ?_
  refine wp_retV ok (by decide +kernel) (by decide) (by decide) ?_
  exact ⟨rfl, rfl⟩
def k_him : List (Nat × Value) := []
def Q_him (Z : State) (a : Addr) (h0 : Heap) : Post := fun v h => v = none ∧ Keep h0 h [a] ∧ Fld Z h a "java/util/HashMap" "loadFactor" "F" (.float (1061158912 : UInt32))
theorem pn_him : plainFor (⟨"java/util/HashMap", "<init>", "()V"⟩ : MethodName) = true := by first | (refine plainFor_of_name ?_; simp [plainName, overriddenIn]; done) | decide +kernel
set_option maxRecDepth 65536 in
set_option maxHeartbeats 40000000 in
theorem c_him (l : Launch) (Z : State) (a0 : Array Value) (hw : ∀ d ∈ tables_1, d.before a0 Z = true) (a : Addr) (h0 : Heap) (n0 : Nat) (Z0 : n0 ≤ h0.size) (E_a : Exa Z h0 a "java/util/HashMap") (F_a_loadFactor : Fld Z h0 a "java/util/HashMap" "loadFactor" "F" (.float 0)) (g_a : n0 ≤ a) :
    Con l Z (⟨"java/util/HashMap", "<init>", "()V"⟩ : MethodName) jdk_69_method_7_code 1 (none : Option FieldType) ({ frames := 2, cells := 0, slots := 0, locals := 24 } : Room) #[(.ref a)] h0 n0 (Q_him Z a h0) [] := by
  refine con_of_wp pn_him (L0 := #[.val ((.ref a))]) (fun m => by first | (simp [entryFrame, mkF, argsToLocals, Value.category]; done) | rfl) (fun X hl ok => ?_)
  subst hl
  have hK : Konst Z a0 "java/util/HashMap" k_him := trivial
  have K0 : Keep h0 h0 [a] := Keep.refl _ _
  refine wp_run ok hK (B := [(0, .aload_n 0, false)]) (by decide +kernel) (pc' := 1) (L' := #[.val ((.ref a))]) (S' := [(.ref a)]) rfl trivial ?_
  refine wp_special ok rfl (wd hw 19 rfl) (wd hw 20 rfl) (wd hw 23 rfl) (wd hw 24 rfl) (by decide) (argsL := []) (rest := []) (c_abm _ Z a0 hw a h0 n0 Z0 ) (ps := []) (by decide +kernel) (by rfl) (by rfl) (by rfl) (by decide +kernel) (by decide) (Nat.le_of_ble_eq_true rfl) (by decide) (by decide) ?_
  intro r1 h2 q3
  obtain ⟨rfl, rfl⟩ := q3
  show WP X n0 (Q_him Z a h0) h0 0 0 4 #[.val ((.ref a))] []
  refine wp_run ok hK (B := [(4, .aload_n 0, false)]) (by decide +kernel) (pc' := 5) (L' := #[.val ((.ref a))]) (S' := [(.ref a)]) rfl trivial ?_
  refine wp_ldcF ok (wd hw 26 rfl) (by decide +kernel) ?_
  refine wp_putF ok (wd hw 27 rfl) F_a_loadFactor E_a (Or.inr ⟨(wd hw 28 rfl), rfl, rfl⟩) (wd hw 14 rfl) (ty := .float) (by decide) rfl rfl (by decide +kernel) g_a ?_
  intro h4 W5
  have F6 := F_a_loadFactor.same W5
  have E7 := E_a.wr W5
  have Z8 : n0 ≤ h4.size := by rw [W5.size]; exact Z0
  have K9 := K0.wr W5 (Or.inl (by simp))
  refine wp_retV ok (by decide +kernel) (by decide) (by decide) ?_
  exact ⟨rfl, K9, F6⟩
def k_ini : List (Nat × Value) := [(75, .long (2 : Int64)), (20, .long (1000 : Int64)), (22, .long (4096 : Int64))]
def Q_ini (Z : State) (a : Addr) (h0 : Heap) : Post := fun v h => ∃ ad : Addr, v = none ∧ Keep h0 h [a] ∧ h0.size ≤ ad ∧ Fld Z h a "com/example/usher/usher/cli/Tally" "dense" "[J" (.ref ad) ∧ Fld Z h a "com/example/usher/usher/cli/Tally" "pairs" "J" (.long (0 : Int64)) ∧ Fld Z h a "com/example/usher/usher/cli/Tally" "failed" "J" (.long (0 : Int64)) ∧ Ar Z h ad .long 4096 (fun _ => .long (0 : Int64))
theorem pn_ini : plainFor (⟨"com/example/usher/usher/cli/Tally", "<init>", "()V"⟩ : MethodName) = true := by first | (refine plainFor_of_name ?_; simp [plainName, overriddenIn]; done) | decide +kernel
set_option maxRecDepth 65536 in
set_option maxHeartbeats 40000000 in
theorem c_ini (l : Launch) (Z : State) (a0 : Array Value) (hw : ∀ d ∈ tables_1, d.before a0 Z = true) (a : Addr) (h0 : Heap) (n0 : Nat) (Z0 : n0 ≤ h0.size) (E_a : Exa Z h0 a "com/example/usher/usher/cli/Tally") (F_a_dense : Fld Z h0 a "com/example/usher/usher/cli/Tally" "dense" "[J" (.null)) (F_a_sparse : Fld Z h0 a "com/example/usher/usher/cli/Tally" "sparse" "Ljava/util/Map;" (.null)) (F_a_pairs : Fld Z h0 a "com/example/usher/usher/cli/Tally" "pairs" "J" (.long (0 : Int64))) (F_a_failed : Fld Z h0 a "com/example/usher/usher/cli/Tally" "failed" "J" (.long (0 : Int64))) (g_a : n0 ≤ a) :
    Con l Z (⟨"com/example/usher/usher/cli/Tally", "<init>", "()V"⟩ : MethodName) prog_4_method_1_code 1 (none : Option FieldType) ({ frames := 3, cells := 2, slots := 4104, locals := 38 } : Room) #[(.ref a)] h0 n0 (Q_ini Z a h0) [] := by
  refine con_of_wp pn_ini (L0 := #[.val ((.ref a))]) (fun m => by first | (simp [entryFrame, mkF, argsToLocals, Value.category]; done) | rfl) (fun X hl ok => ?_)
  subst hl
  have hK : Konst Z a0 "com/example/usher/usher/cli/Tally" k_ini := ⟨Or.inr ⟨_, rfl, wd hw 36 rfl⟩, ⟨Or.inr ⟨_, rfl, wd hw 45 rfl⟩, ⟨Or.inr ⟨_, rfl, wd hw 46 rfl⟩, trivial⟩⟩⟩
  have K0 : Keep h0 h0 [a] := Keep.refl _ _
  refine wp_run ok hK (B := [(0, .aload_n 0, false)]) (by decide +kernel) (pc' := 1) (L' := #[.val ((.ref a))]) (S' := [(.ref a)]) rfl trivial ?_
  refine wp_initO ok (wd hw 7 rfl) (wd hw 8 rfl) (wd hw 9 rfl) (by rfl) (by decide +kernel) (by decide) (Nat.le_of_ble_eq_true rfl) ?_
  refine wp_run ok hK (B := [(4, .aload_n 0, false), (5, .sipush 4096, false)]) (by decide +kernel) (pc' := 8) (L' := #[.val ((.ref a))]) (S' := [.int (4096 : Int32), (.ref a)]) rfl trivial ?_
  refine wp_nA ok (aty := .long) (wd hw 10 rfl) (by decide +kernel) (cap := 4096) (by rfl) (by decide) (by decide) (by decide) ?_
  intro h1 a2 ea3 X4 A5
  have E7 := E_a.ext X4
  have F8 := F_a_dense.ext X4
  have F9 := F_a_sparse.ext X4
  have F10 := F_a_pairs.ext X4
  have F11 := F_a_failed.ext X4
  have Z12 : n0 ≤ h1.size := Nat.le_trans Z0 X4.1
  have K13 := K0.ext X4
  have A6 : Ar Z h1 a2 .long 4096 (fun _ => .long (0 : Int64)) := A5
  have g14 : n0 ≤ a2 := by rw [ea3]; exact Z0
  have g15 : h0.size ≤ a2 := by rw [ea3]; exact K0.1
  have N16 : a ≠ a2 := ne_new (E_a.lt) ea3
  refine wp_putF ok (wd hw 11 rfl) F8 E7 (Or.inr ⟨(wd hw 12 rfl), rfl, rfl⟩) (wd hw 2 rfl) (ty := (.array .long)) (by decide) rfl rfl (by decide +kernel) g_a ?_
  intro h17 W18
  have F19 := F8.same W18
  have F20 := F9.other W18 (Or.inr (slot_ne (C := "com/example/usher/usher/cli/Tally") (a0 := a0) (Or.inr (wd hw 30 rfl)) (Or.inr (wd hw 12 rfl)) (by decide +kernel) (t := (.object "java/util/Map")) (t' := (.array .long)) (by decide +kernel) (by decide +kernel)))
  have F21 := F10.other W18 (Or.inr (slot_ne (C := "com/example/usher/usher/cli/Tally") (a0 := a0) (Or.inl (wd hw 38 rfl)) (Or.inr (wd hw 12 rfl)) (by decide +kernel) (t := .long) (t' := (.array .long)) (by decide +kernel) (by decide +kernel)))
  have F22 := F11.other W18 (Or.inr (slot_ne (C := "com/example/usher/usher/cli/Tally") (a0 := a0) (Or.inl (wd hw 53 rfl)) (Or.inr (wd hw 12 rfl)) (by decide +kernel) (t := .long) (t' := (.array .long)) (by decide +kernel) (by decide +kernel)))
  have A23 := A6.other W18 (Ne.symm N16)
  have E24 := E7.wr W18
  have Z25 : n0 ≤ h17.size := by rw [W18.size]; exact Z12
  have K26 := K13.wr W18 (Or.inl (by simp))
  refine wp_run ok hK (B := [(13, .aload_n 0, false)]) (by decide +kernel) (pc' := 14) (L' := #[.val ((.ref a))]) (S' := [(.ref a)]) rfl trivial ?_
  refine wp_new ok (wd hw 13 rfl) (wd hw 14 rfl) (wd hw 15 rfl) (by decide +kernel) (by decide) (by decide) ?_
  intro h27 a28 ea29 X30 E31 D32
  have E33 := E24.ext X30
  have F34 := F19.ext X30
  have F35 := F20.ext X30
  have F36 := F21.ext X30
  have F37 := F22.ext X30
  have A38 := A23.ext X30
  have Z39 : n0 ≤ h27.size := Nat.le_trans Z25 X30.1
  have K40 := K26.ext X30
  have g41 : n0 ≤ a28 := by rw [ea29]; exact Z25
  have g42 : h0.size ≤ a28 := by rw [ea29]; exact K26.1
  have F43 : Fld Z h27 a28 "java/util/HashMap" "loadFactor" "F" (.float 0) := D32 (Or.inr (wd hw 28 rfl)) (ty := .float) (by decide)
  refine wp_run ok hK (B := [(17, .dup, false)]) (by decide +kernel) (pc' := 18) (L' := #[.val ((.ref a))]) (S' := [(.ref a28), (.ref a28), (.ref a)]) rfl trivial ?_
  refine wp_special ok rfl (wd hw 16 rfl) (wd hw 17 rfl) (wd hw 15 rfl) (wd hw 18 rfl) (by decide) (argsL := []) (rest := [(.ref a28), (.ref a)]) (c_him _ Z a0 hw a28 h27 n0 Z39 E31 F43 g41) (ps := []) (by decide +kernel) (by rfl) (by rfl) (by rfl) (by decide +kernel) (by decide) (Nat.le_of_ble_eq_true rfl) (by decide) (by decide) ?_
  intro r44 h45 q46
  obtain ⟨rfl, K47, F48⟩ := q46
  have E49 := E33.keep K47
  have F50 := F34.keep K47 (by simp only [List.mem_cons, List.not_mem_nil, or_false, not_or]; exact (ne_new (E24.lt) ea29))
  have F51 := F35.keep K47 (by simp only [List.mem_cons, List.not_mem_nil, or_false, not_or]; exact (ne_new (E24.lt) ea29))
  have F52 := F36.keep K47 (by simp only [List.mem_cons, List.not_mem_nil, or_false, not_or]; exact (ne_new (E24.lt) ea29))
  have F53 := F37.keep K47 (by simp only [List.mem_cons, List.not_mem_nil, or_false, not_or]; exact (ne_new (E24.lt) ea29))
  have E54 := E31.keep K47
  have A55 := A38.keep K47 (by simp only [List.mem_cons, List.not_mem_nil, or_false, not_or]; exact (ne_new (A23.lt) ea29))
  have Z56 : n0 ≤ h45.size := Nat.le_trans Z39 K47.1
  have K57 := K40.trans K47 (allS (P := fun z => z ∈ [a] ∨ h0.size ≤ z) (Or.inr g42) all0)
  show WP X n0 (Q_ini Z a h0) h45 2 4104 21 #[.val ((.ref a))] [(.ref a28), (.ref a)]
  refine wp_putF ok (wd hw 29 rfl) F51 E49 (Or.inr ⟨(wd hw 30 rfl), rfl, rfl⟩) (wd hw 2 rfl) (ty := (.object "java/util/Map")) (by decide) rfl rfl (by decide +kernel) g_a ?_
  intro h58 W59
  have F60 := F50.other W59 (Or.inr (slot_ne (C := "com/example/usher/usher/cli/Tally") (a0 := a0) (Or.inr (wd hw 12 rfl)) (Or.inr (wd hw 30 rfl)) (by decide +kernel) (t := (.array .long)) (t' := (.object "java/util/Map")) (by decide +kernel) (by decide +kernel)))
  have F61 := F51.same W59
  have F62 := F52.other W59 (Or.inr (slot_ne (C := "com/example/usher/usher/cli/Tally") (a0 := a0) (Or.inl (wd hw 38 rfl)) (Or.inr (wd hw 30 rfl)) (by decide +kernel) (t := .long) (t' := (.object "java/util/Map")) (by decide +kernel) (by decide +kernel)))
  have F63 := F53.other W59 (Or.inr (slot_ne (C := "com/example/usher/usher/cli/Tally") (a0 := a0) (Or.inl (wd hw 53 rfl)) (Or.inr (wd hw 30 rfl)) (by decide +kernel) (t := .long) (t' := (.object "java/util/Map")) (by decide +kernel) (by decide +kernel)))
  have F64 := F48.other W59 (Or.inl (Ne.symm (ne_new (E24.lt) ea29)))
  have A65 := A55.other W59 (Ne.symm N16)
  have E66 := E49.wr W59
  have E67 := E54.wr W59
  have Z68 : n0 ≤ h58.size := by rw [W59.size]; exact Z56
  have K69 := K57.wr W59 (Or.inl (by simp))
  refine wp_retV ok (by decide +kernel) (by decide) (by decide) ?_
  exact ⟨a2, rfl, K69, g15, F60, F62, F63, A65⟩
def k_pair : List (Nat × Value) := [(75, .long (2 : Int64)), (20, .long (1000 : Int64)), (22, .long (4096 : Int64))]
def Q_pair (Z : State) (a : Addr) (ad : Addr) (p : Int64) (q : Int64) (f : Nat → Value) (d : Int64) (h0 : Heap) : Post := fun v h => v = none ∧ Keep h0 h [a, ad] ∧ Fld Z h a "com/example/usher/usher/cli/Tally" "dense" "[J" (.ref ad) ∧ Fld Z h a "com/example/usher/usher/cli/Tally" "pairs" "J" (.long (p + (1 : Int64))) ∧ Fld Z h a "com/example/usher/usher/cli/Tally" "failed" "J" (.long q) ∧ Ar Z h ad .long 4096 (fun j => if j = 0 then .long (d + (1 : Int64)) else f j)
theorem own_pair_1 (p : Int64) (q : Int64) (d : Int64) : ((0 : Int64) / (1000 : Int64)) < (4096 : Int64) := by
  decide
theorem pn_pair : plainFor (⟨"com/example/usher/usher/cli/Tally", "pair", "(J)V"⟩ : MethodName) = true := by first | (refine plainFor_of_name ?_; simp [plainName, overriddenIn]; done) | decide +kernel
set_option maxRecDepth 65536 in
set_option maxHeartbeats 40000000 in
theorem c_pair (l : Launch) (Z : State) (a0 : Array Value) (hw : ∀ d ∈ tables_1, d.before a0 Z = true) (a : Addr) (ad : Addr) (p : Int64) (q : Int64) (f : Nat → Value) (d : Int64) (h0 : Heap) (n0 : Nat) (Z0 : n0 ≤ h0.size) (E_a : Exa Z h0 a "com/example/usher/usher/cli/Tally") (F_a_dense : Fld Z h0 a "com/example/usher/usher/cli/Tally" "dense" "[J" ((.ref ad))) (F_a_pairs : Fld Z h0 a "com/example/usher/usher/cli/Tally" "pairs" "J" (.long p)) (F_a_failed : Fld Z h0 a "com/example/usher/usher/cli/Tally" "failed" "J" (.long q)) (g_a : n0 ≤ a) (A_ad : Ar Z h0 ad .long 4096 f) (g_ad : n0 ≤ ad) (hf : f 0 = .long d) :
    Con l Z (⟨"com/example/usher/usher/cli/Tally", "pair", "(J)V"⟩ : MethodName) prog_4_method_2_code 5 (none : Option FieldType) ({ frames := 0, cells := 0, slots := 0, locals := 0 } : Room) #[(.ref a), .long (0 : Int64)] h0 n0 (Q_pair Z a ad p q f d h0) [] := by
  refine con_of_wp pn_pair (L0 := #[.val ((.ref a)), .val (.long (0 : Int64)), .second, .unset, .unset]) (fun m => by first | (simp [entryFrame, mkF, argsToLocals, Value.category]; done) | rfl) (fun X hl ok => ?_)
  subst hl
  have hK : Konst Z a0 "com/example/usher/usher/cli/Tally" k_pair := ⟨Or.inr ⟨_, rfl, wd hw 36 rfl⟩, ⟨Or.inr ⟨_, rfl, wd hw 45 rfl⟩, ⟨Or.inr ⟨_, rfl, wd hw 46 rfl⟩, trivial⟩⟩⟩
  have ne_a_ad : a ≠ ad := ne_ar E_a (wd hw 2 rfl) A_ad
  have K0 : Keep h0 h0 [a, ad] := Keep.refl _ _
  refine wp_run ok hK (B := [(0, .lload_n 1, false), (1, .ldc2_w 20, false), (4, .ldiv, false), (5, .lstore_n 3, false), (6, .lload_n 3, false), (7, .ldc2_w 22, false), (10, .lcmp, false), (11, .ifCond .ge 17, false), (14, .aload_n 0, false)]) (by decide +kernel) (pc' := 15) (L' := #[.val ((.ref a)), .val (.long (0 : Int64)), .second, .val (.long ((0 : Int64) / (1000 : Int64))), .second]) (S' := [(.ref a)]) rfl ⟨(by decide), (XT.ll_ge_f (own_pair_1 p q d)), trivial⟩ ?_
  refine wp_getF ok (wd hw 11 rfl) F_a_dense (by decide +kernel) ?_
  refine wp_run ok hK (B := [(18, .lload_n 3, false), (19, .l2i, false), (20, .dup2, false)]) (by decide +kernel) (pc' := 21) (L' := #[.val ((.ref a)), .val (.long (0 : Int64)), .second, .val (.long ((0 : Int64) / (1000 : Int64))), .second]) (S' := [.int (((0 : Int64) / (1000 : Int64)).toInt32), (.ref ad), .int (((0 : Int64) / (1000 : Int64)).toInt32), (.ref ad)]) rfl trivial ?_
  refine wp_aJ ok A_ad (i := 0) (by decide) (by decide) hf (by decide +kernel) ?_
  refine wp_run ok hK (B := [(22, .lconst 1, false), (23, .ladd, false)]) (by decide +kernel) (pc' := 24) (L' := #[.val ((.ref a)), .val (.long (0 : Int64)), .second, .val (.long ((0 : Int64) / (1000 : Int64))), .second]) (S' := [.long (d + (1 : Int64)), .int (((0 : Int64) / (1000 : Int64)).toInt32), (.ref ad)]) rfl trivial ?_
  refine wp_sJ ok A_ad (i := 0) (by decide) (by decide) (by decide +kernel) g_ad ?_
  intro h1 W2 A3
  have F4 := F_a_dense.other W2 (Or.inl ne_a_ad)
  have F5 := F_a_pairs.other W2 (Or.inl ne_a_ad)
  have F6 := F_a_failed.other W2 (Or.inl ne_a_ad)
  have E7 := E_a.wr W2
  have Z8 : n0 ≤ h1.size := by rw [W2.size]; exact Z0
  have K9 := K0.wr W2 (Or.inl (by simp))
  refine wp_run ok hK (B := [(25, .goto 26, false), (51, .aload_n 0, false), (52, .dup, false)]) (by decide +kernel) (pc' := 53) (L' := #[.val ((.ref a)), .val (.long (0 : Int64)), .second, .val (.long ((0 : Int64) / (1000 : Int64))), .second]) (S' := [(.ref a), (.ref a)]) rfl trivial ?_
  refine wp_getF ok (wd hw 37 rfl) F5 (by decide +kernel) ?_
  refine wp_run ok hK (B := [(56, .lconst 1, false), (57, .ladd, false)]) (by decide +kernel) (pc' := 58) (L' := #[.val ((.ref a)), .val (.long (0 : Int64)), .second, .val (.long ((0 : Int64) / (1000 : Int64))), .second]) (S' := [.long (p + (1 : Int64)), (.ref a)]) rfl trivial ?_
  refine wp_putF ok (wd hw 37 rfl) F5 E7 (Or.inl (wd hw 38 rfl)) (wd hw 2 rfl) (ty := .long) (by decide) rfl rfl (by decide +kernel) g_a ?_
  intro h10 W11
  have F12 := F4.other W11 (Or.inr (slot_ne (C := "com/example/usher/usher/cli/Tally") (a0 := a0) (Or.inr (wd hw 12 rfl)) (Or.inl (wd hw 38 rfl)) (by decide +kernel) (t := (.array .long)) (t' := .long) (by decide +kernel) (by decide +kernel)))
  have F13 := F5.same W11
  have F14 := F6.other W11 (Or.inr (slot_ne (C := "com/example/usher/usher/cli/Tally") (a0 := a0) (Or.inl (wd hw 53 rfl)) (Or.inl (wd hw 38 rfl)) (by decide +kernel) (t := .long) (t' := .long) (by decide +kernel) (by decide +kernel)))
  have A15 := A3.other W11 (Ne.symm ne_a_ad)
  have E16 := E7.wr W11
  have Z17 : n0 ≤ h10.size := by rw [W11.size]; exact Z8
  have K18 := K9.wr W11 (Or.inl (by simp))
  refine wp_retV ok (by decide +kernel) (by decide) (by decide) ?_
  exact ⟨rfl, K18, F12, F13, F14, A15⟩
def k_fail : List (Nat × Value) := [(75, .long (2 : Int64)), (20, .long (1000 : Int64)), (22, .long (4096 : Int64))]
def Q_fail (Z : State) (a : Addr) (q : Int64) (p : Int64) (h0 : Heap) : Post := fun v h => v = none ∧ Keep h0 h [a] ∧ Fld Z h a "com/example/usher/usher/cli/Tally" "failed" "J" (.long (q + (1 : Int64))) ∧ Fld Z h a "com/example/usher/usher/cli/Tally" "pairs" "J" (.long p)
theorem pn_fail : plainFor (⟨"com/example/usher/usher/cli/Tally", "failure", "()V"⟩ : MethodName) = true := by first | (refine plainFor_of_name ?_; simp [plainName, overriddenIn]; done) | decide +kernel
set_option maxRecDepth 65536 in
set_option maxHeartbeats 40000000 in
theorem c_fail (l : Launch) (Z : State) (a0 : Array Value) (hw : ∀ d ∈ tables_1, d.before a0 Z = true) (a : Addr) (q : Int64) (p : Int64) (h0 : Heap) (n0 : Nat) (Z0 : n0 ≤ h0.size) (E_a : Exa Z h0 a "com/example/usher/usher/cli/Tally") (F_a_failed : Fld Z h0 a "com/example/usher/usher/cli/Tally" "failed" "J" (.long q)) (F_a_pairs : Fld Z h0 a "com/example/usher/usher/cli/Tally" "pairs" "J" (.long p)) (g_a : n0 ≤ a) :
    Con l Z (⟨"com/example/usher/usher/cli/Tally", "failure", "()V"⟩ : MethodName) prog_4_method_3_code 1 (none : Option FieldType) ({ frames := 0, cells := 0, slots := 0, locals := 0 } : Room) #[(.ref a)] h0 n0 (Q_fail Z a q p h0) [] := by
  refine con_of_wp pn_fail (L0 := #[.val ((.ref a))]) (fun m => by first | (simp [entryFrame, mkF, argsToLocals, Value.category]; done) | rfl) (fun X hl ok => ?_)
  subst hl
  have hK : Konst Z a0 "com/example/usher/usher/cli/Tally" k_fail := ⟨Or.inr ⟨_, rfl, wd hw 36 rfl⟩, ⟨Or.inr ⟨_, rfl, wd hw 45 rfl⟩, ⟨Or.inr ⟨_, rfl, wd hw 46 rfl⟩, trivial⟩⟩⟩
  have K0 : Keep h0 h0 [a] := Keep.refl _ _
  refine wp_run ok hK (B := [(0, .aload_n 0, false), (1, .dup, false)]) (by decide +kernel) (pc' := 2) (L' := #[.val ((.ref a))]) (S' := [(.ref a), (.ref a)]) rfl trivial ?_
  refine wp_getF ok (wd hw 52 rfl) F_a_failed (by decide +kernel) ?_
  refine wp_run ok hK (B := [(5, .lconst 1, false), (6, .ladd, false)]) (by decide +kernel) (pc' := 7) (L' := #[.val ((.ref a))]) (S' := [.long (q + (1 : Int64)), (.ref a)]) rfl trivial ?_
  refine wp_putF ok (wd hw 52 rfl) F_a_failed E_a (Or.inl (wd hw 53 rfl)) (wd hw 2 rfl) (ty := .long) (by decide) rfl rfl (by decide +kernel) g_a ?_
  intro h1 W2
  have F3 := F_a_failed.same W2
  have F4 := F_a_pairs.other W2 (Or.inr (slot_ne (C := "com/example/usher/usher/cli/Tally") (a0 := a0) (Or.inl (wd hw 38 rfl)) (Or.inl (wd hw 53 rfl)) (by decide +kernel) (t := .long) (t' := .long) (by decide +kernel) (by decide +kernel)))
  have E5 := E_a.wr W2
  have Z6 : n0 ≤ h1.size := by rw [W2.size]; exact Z0
  have K7 := K0.wr W2 (Or.inl (by simp))
  refine wp_retV ok (by decide +kernel) (by decide) (by decide) ?_
  exact ⟨rfl, K7, F3, F4⟩
def k_pps : List (Nat × Value) := [(75, .long (2 : Int64)), (20, .long (1000 : Int64)), (22, .long (4096 : Int64))]
def Q_pps (Z : State) (a : Addr) (u : Int32) (p : Int64) (h0 : Heap) : Post := fun v h => v = some (.long ((((2 : Int64) * p) + (u.toInt64)) / ((2 : Int64) * (u.toInt64)))) ∧ h0 = h
theorem own_pps_1 (u : Int32) (p : Int64) (p1 : ((2 : Int64) * (u.toInt64)) ≠ 0) : ((2 : Int64) * (u.toInt64)) ≠ 0 := by
  exact p1
theorem pn_pps : plainFor (⟨"com/example/usher/usher/cli/Tally", "pairsPerSecond", "(I)J"⟩ : MethodName) = true := by first | (refine plainFor_of_name ?_; simp [plainName, overriddenIn]; done) | decide +kernel
set_option maxRecDepth 65536 in
set_option maxHeartbeats 40000000 in
theorem c_pps (l : Launch) (Z : State) (a0 : Array Value) (hw : ∀ d ∈ tables_1, d.before a0 Z = true) (a : Addr) (u : Int32) (p : Int64) (h0 : Heap) (n0 : Nat) (Z0 : n0 ≤ h0.size) (E_a : Exa Z h0 a "com/example/usher/usher/cli/Tally") (F_a_pairs : Fld Z h0 a "com/example/usher/usher/cli/Tally" "pairs" "J" (.long p)) (g_a : n0 ≤ a) (p1 : ((2 : Int64) * (u.toInt64)) ≠ 0) :
    Con l Z (⟨"com/example/usher/usher/cli/Tally", "pairsPerSecond", "(I)J"⟩ : MethodName) prog_4_method_7_code 2 (some .long) ({ frames := 0, cells := 0, slots := 0, locals := 0 } : Room) #[(.ref a), .int u] h0 n0 (Q_pps Z a u p h0) [] := by
  refine con_of_wp pn_pps (L0 := #[.val ((.ref a)), .val (.int u)]) (fun m => by first | (simp [entryFrame, mkF, argsToLocals, Value.category]; done) | rfl) (fun X hl ok => ?_)
  subst hl
  have hK : Konst Z a0 "com/example/usher/usher/cli/Tally" k_pps := ⟨Or.inr ⟨_, rfl, wd hw 36 rfl⟩, ⟨Or.inr ⟨_, rfl, wd hw 45 rfl⟩, ⟨Or.inr ⟨_, rfl, wd hw 46 rfl⟩, trivial⟩⟩⟩
  refine wp_run ok hK (B := [(0, .ldc2_w 75, false), (3, .aload_n 0, false)]) (by decide +kernel) (pc' := 4) (L' := #[.val ((.ref a)), .val (.int u)]) (S' := [(.ref a), .long (2 : Int64)]) rfl trivial ?_
  refine wp_getF ok (wd hw 37 rfl) F_a_pairs (by decide +kernel) ?_
  refine wp_run ok hK (B := [(7, .lmul, false), (8, .iload_n 1, false), (9, .i2l, false), (10, .ladd, false), (11, .ldc2_w 75, false), (14, .iload_n 1, false), (15, .i2l, false), (16, .lmul, false), (17, .ldiv, false)]) (by decide +kernel) (pc' := 18) (L' := #[.val ((.ref a)), .val (.int u)]) (S' := [.long ((((2 : Int64) * p) + (u.toInt64)) / ((2 : Int64) * (u.toInt64)))]) rfl ⟨(own_pps_1 u p p1), trivial⟩ ?_
  refine wp_retJ ok (by decide +kernel) (by decide) (by decide) ?_
  exact ⟨rfl, rfl⟩
def k_law : List (Nat × Value) := [(7, .int (2147483647 : Int32)), (22, .long (2 : Int64))]
def QL : Post := fun v _ => v = some (.int 1)
theorem own_law_1 (a : Int32) (b : Int32) (cc : Int32) (nn : Int32) (h_nn : nn = (a &&& (7 : Int32))) (v19_4 : Int32) (h_v19_4 : v19_4 = (if (b &&& (2147483647 : Int32)) = (0 : Int32) then (1 : Int32) else (b &&& (2147483647 : Int32)))) (p1 : Int64) (hp1 : p1.toInt = if nn.toInt < 1 then nn.toInt else 1) (p2 : Int64) (hp2 : p2.toInt = if nn.toInt < 2 then nn.toInt else 2) (p3 : Int64) (hp3 : p3.toInt = if nn.toInt < 3 then nn.toInt else 3) (p4 : Int64) (hp4 : p4.toInt = if nn.toInt < 4 then nn.toInt else 4) (p5 : Int64) (hp5 : p5.toInt = if nn.toInt < 5 then nn.toInt else 5) (p6 : Int64) (hp6 : p6.toInt = if nn.toInt < 6 then nn.toInt else 6) (p7 : Int64) (hp7 : p7.toInt = if nn.toInt < 7 then nn.toInt else 7) (hc110 : (cc &&& (1 : Int32)) = (0 : Int32)) : ((2 : Int64) * (v19_4.toInt64)) ≠ 0 := by
  have s1 : 0 < v19_4.toInt := by
    have e1 := c_mask b 2147483647 31 (by decide) (by decide)
    rw [h_v19_4]
    split
    · decide
    · rename_i q
      rw [← Int32.toInt_inj] at q
      simp only [Int32.reduceToInt] at q
      rw [e1] at q ⊢
      omega
  have s2 := v19_4.toInt_lt
  have o2 : (2 : Int64).toInt = 2 := rfl
  have i1 := c_i2l v19_4
  have w2 : ((2 : Int64) * (v19_4.toInt64)).toInt = 2 * v19_4.toInt := by rw [x_lmul (by rw [i1, o2]; omega) (by rw [i1, o2]; omega), i1, o2]
  intro q
  rw [q] at w2
  simp only [Int64.reduceToInt] at w2
  omega
theorem own_law_2 (a : Int32) (b : Int32) (cc : Int32) (nn : Int32) (h_nn : nn = (a &&& (7 : Int32))) (v19_4 : Int32) (h_v19_4 : v19_4 = (if (b &&& (2147483647 : Int32)) = (0 : Int32) then (1 : Int32) else (b &&& (2147483647 : Int32)))) (p1 : Int64) (hp1 : p1.toInt = if nn.toInt < 1 then nn.toInt else 1) (p2 : Int64) (hp2 : p2.toInt = if nn.toInt < 2 then nn.toInt else 2) (p3 : Int64) (hp3 : p3.toInt = if nn.toInt < 3 then nn.toInt else 3) (p4 : Int64) (hp4 : p4.toInt = if nn.toInt < 4 then nn.toInt else 4) (p5 : Int64) (hp5 : p5.toInt = if nn.toInt < 5 then nn.toInt else 5) (p6 : Int64) (hp6 : p6.toInt = if nn.toInt < 6 then nn.toInt else 6) (p7 : Int64) (hp7 : p7.toInt = if nn.toInt < 7 then nn.toInt else 7) (hc110 : (cc &&& (1 : Int32)) = (0 : Int32)) (z122 : Int64) (h_z122 : z122 = ((((2 : Int64) * p7) + (v19_4.toInt64)) / ((2 : Int64) * (v19_4.toInt64)))) : (v19_4.toInt64) ≠ 0 := by
  have s1 : 0 < v19_4.toInt := by
    have e1 := c_mask b 2147483647 31 (by decide) (by decide)
    rw [h_v19_4]
    split
    · decide
    · rename_i q
      rw [← Int32.toInt_inj] at q
      simp only [Int32.reduceToInt] at q
      rw [e1] at q ⊢
      omega
  have s2 := v19_4.toInt_lt
  have o2 : (2 : Int64).toInt = 2 := rfl
  have i1 := c_i2l v19_4
  have w2 : ((2 : Int64) * (v19_4.toInt64)).toInt = 2 * v19_4.toInt := by rw [x_lmul (by rw [i1, o2]; omega) (by rw [i1, o2]; omega), i1, o2]
  intro q
  rw [q] at i1
  simp only [Int64.reduceToInt] at i1
  omega
theorem own_law_3 (a : Int32) (b : Int32) (cc : Int32) (nn : Int32) (h_nn : nn = (a &&& (7 : Int32))) (v19_4 : Int32) (h_v19_4 : v19_4 = (if (b &&& (2147483647 : Int32)) = (0 : Int32) then (1 : Int32) else (b &&& (2147483647 : Int32)))) (p1 : Int64) (hp1 : p1.toInt = if nn.toInt < 1 then nn.toInt else 1) (p2 : Int64) (hp2 : p2.toInt = if nn.toInt < 2 then nn.toInt else 2) (p3 : Int64) (hp3 : p3.toInt = if nn.toInt < 3 then nn.toInt else 3) (p4 : Int64) (hp4 : p4.toInt = if nn.toInt < 4 then nn.toInt else 4) (p5 : Int64) (hp5 : p5.toInt = if nn.toInt < 5 then nn.toInt else 5) (p6 : Int64) (hp6 : p6.toInt = if nn.toInt < 6 then nn.toInt else 6) (p7 : Int64) (hp7 : p7.toInt = if nn.toInt < 7 then nn.toInt else 7) (hc110 : (cc &&& (1 : Int32)) = (0 : Int32)) (z122 : Int64) (h_z122 : z122 = ((((2 : Int64) * p7) + (v19_4.toInt64)) / ((2 : Int64) * (v19_4.toInt64)))) : (v19_4.toInt64) ≠ 0 := by
  have s1 : 0 < v19_4.toInt := by
    have e1 := c_mask b 2147483647 31 (by decide) (by decide)
    rw [h_v19_4]
    split
    · decide
    · rename_i q
      rw [← Int32.toInt_inj] at q
      simp only [Int32.reduceToInt] at q
      rw [e1] at q ⊢
      omega
  have s2 := v19_4.toInt_lt
  have o2 : (2 : Int64).toInt = 2 := rfl
  have i1 := c_i2l v19_4
  have w2 : ((2 : Int64) * (v19_4.toInt64)).toInt = 2 * v19_4.toInt := by rw [x_lmul (by rw [i1, o2]; omega) (by rw [i1, o2]; omega), i1, o2]
  intro q
  rw [q] at i1
  simp only [Int64.reduceToInt] at i1
  omega
theorem own_law_4 (a : Int32) (b : Int32) (cc : Int32) (nn : Int32) (h_nn : nn = (a &&& (7 : Int32))) (v19_4 : Int32) (h_v19_4 : v19_4 = (if (b &&& (2147483647 : Int32)) = (0 : Int32) then (1 : Int32) else (b &&& (2147483647 : Int32)))) (p1 : Int64) (hp1 : p1.toInt = if nn.toInt < 1 then nn.toInt else 1) (p2 : Int64) (hp2 : p2.toInt = if nn.toInt < 2 then nn.toInt else 2) (p3 : Int64) (hp3 : p3.toInt = if nn.toInt < 3 then nn.toInt else 3) (p4 : Int64) (hp4 : p4.toInt = if nn.toInt < 4 then nn.toInt else 4) (p5 : Int64) (hp5 : p5.toInt = if nn.toInt < 5 then nn.toInt else 5) (p6 : Int64) (hp6 : p6.toInt = if nn.toInt < 6 then nn.toInt else 6) (p7 : Int64) (hp7 : p7.toInt = if nn.toInt < 7 then nn.toInt else 7) (hc110 : (cc &&& (1 : Int32)) = (0 : Int32)) (z122 : Int64) (h_z122 : z122 = ((((2 : Int64) * p7) + (v19_4.toInt64)) / ((2 : Int64) * (v19_4.toInt64)))) (v166_12 : Int64) (h_v166_12 : v166_12 = (if ((2 : Int64) * ((nn.toInt64) % (v19_4.toInt64))) < (v19_4.toInt64) then ((nn.toInt64) / (v19_4.toInt64)) else (((nn.toInt64) / (v19_4.toInt64)) + (1 : Int64)))) (s179_0 : Int32) (h_s179_0 : s179_0 = (if z122 = v166_12 then (1 : Int32) else (0 : Int32))) : nar .boolean s179_0 = 1 := by
  have n1 : 0 ≤ nn.toInt ∧ nn.toInt < 8 := by
    have e1 := c_mask a 7 3 (by decide) (by decide)
    rw [h_nn, e1]; omega
  have s1 : 0 < v19_4.toInt := by
    have e1 := c_mask b 2147483647 31 (by decide) (by decide)
    rw [h_v19_4]
    split
    · decide
    · rename_i q
      rw [← Int32.toInt_inj] at q
      simp only [Int32.reduceToInt] at q
      rw [e1] at q ⊢
      omega
  have s2 := v19_4.toInt_lt
  have o2 : (2 : Int64).toInt = 2 := rfl
  have i1 := c_i2l v19_4
  have w2 : ((2 : Int64) * (v19_4.toInt64)).toInt = 2 * v19_4.toInt := by rw [x_lmul (by rw [i1, o2]; omega) (by rw [i1, o2]; omega), i1, o2]
  have p1 : p7.toInt = nn.toInt := by rw [hp7]; split <;> omega
  have i2 := c_i2l nn
  have w1 : ((2 : Int64) * p7).toInt = 2 * nn.toInt := by rw [x_lmul (by rw [p1, o2]; omega) (by rw [p1, o2]; omega), p1, o2]
  have w3 : (((2 : Int64) * p7) + (v19_4.toInt64)).toInt = 2 * nn.toInt + v19_4.toInt := by rw [x_ladd (by rw [w1, i1]; omega) (by rw [w1, i1]; omega), w1, i1]
  have m1 : ((2 : Int64) * (v19_4.toInt64)) ≠ -1 := by
    intro q; rw [q] at w2; simp only [Int64.reduceToInt] at w2; omega
  have g1 : z122.toInt = (2 * nn.toInt + v19_4.toInt) / (2 * v19_4.toInt) := by
    rw [h_z122, (c_ldiv _ _ (2 * v19_4.toInt) w2 m1).1 (by rw [w3]; omega), w3]
  rw [own_div nn.toInt v19_4.toInt s1 n1.1] at g1
  have m2 : (v19_4.toInt64) ≠ -1 := by
    intro q; rw [q] at i1; simp only [Int64.reduceToInt] at i1; omega
  have g2 : (nn.toInt64 / v19_4.toInt64).toInt = nn.toInt / v19_4.toInt := by
    rw [(c_ldiv _ _ v19_4.toInt i1 m2).1 (by rw [i2]; omega), i2]
  have g3 : (nn.toInt64 % v19_4.toInt64).toInt = nn.toInt % v19_4.toInt := by
    rw [(c_lmod _ _ v19_4.toInt i1).1 (by rw [i2]; omega), i2]
  have r1 := Int.emod_nonneg nn.toInt (show v19_4.toInt ≠ 0 by omega)
  have r2 := Int.emod_lt_of_pos nn.toInt s1
  have r3 : 0 ≤ nn.toInt / v19_4.toInt := Int.ediv_nonneg n1.1 (by omega)
  have r4 : nn.toInt / v19_4.toInt ≤ nn.toInt := Int.ediv_le_self _ n1.1
  have g4 : ((2 : Int64) * (nn.toInt64 % v19_4.toInt64)).toInt = 2 * (nn.toInt % v19_4.toInt) := by rw [x_lmul (by rw [g3, o2]; omega) (by rw [g3, o2]; omega), g3, o2]
  have o1 : (1 : Int64).toInt = 1 := rfl
  have g5 : ((nn.toInt64 / v19_4.toInt64) + (1 : Int64)).toInt = nn.toInt / v19_4.toInt + 1 := by rw [x_ladd (by rw [g2, o1]; omega) (by rw [g2, o1]; omega), g2, o1]
  have k2 : z122 = v166_12 := by
    rw [h_v166_12, ← Int64.toInt_inj, g1]
    by_cases q : ((2 : Int64) * (nn.toInt64 % v19_4.toInt64)) < v19_4.toInt64
    · rw [if_pos q, g2]
      rw [Int64.lt_iff_toInt_lt, g4, i1] at q
      rw [if_pos q]; omega
    · rw [if_neg q, g5]
      rw [Int64.lt_iff_toInt_lt, g4, i1] at q
      rw [if_neg q]
  rw [h_s179_0, if_pos k2]; rfl
theorem own_law_5 (a : Int32) (b : Int32) (cc : Int32) (nn : Int32) (h_nn : nn = (a &&& (7 : Int32))) (v19_4 : Int32) (h_v19_4 : v19_4 = (if (b &&& (2147483647 : Int32)) = (0 : Int32) then (1 : Int32) else (b &&& (2147483647 : Int32)))) (p1 : Int64) (hp1 : p1.toInt = if nn.toInt < 1 then nn.toInt else 1) (p2 : Int64) (hp2 : p2.toInt = if nn.toInt < 2 then nn.toInt else 2) (p3 : Int64) (hp3 : p3.toInt = if nn.toInt < 3 then nn.toInt else 3) (p4 : Int64) (hp4 : p4.toInt = if nn.toInt < 4 then nn.toInt else 4) (p5 : Int64) (hp5 : p5.toInt = if nn.toInt < 5 then nn.toInt else 5) (p6 : Int64) (hp6 : p6.toInt = if nn.toInt < 6 then nn.toInt else 6) (p7 : Int64) (hp7 : p7.toInt = if nn.toInt < 7 then nn.toInt else 7) (hc110 : ¬ ((cc &&& (1 : Int32)) = (0 : Int32))) (failed115 : Int64) (h_failed115 : failed115 = (q7 + (1 : Int64))) : ((2 : Int64) * (v19_4.toInt64)) ≠ 0 := by
  have s1 : 0 < v19_4.toInt := by
    have e1 := c_mask b 2147483647 31 (by decide) (by decide)
    rw [h_v19_4]
    split
    · decide
    · rename_i q
      rw [← Int32.toInt_inj] at q
      simp only [Int32.reduceToInt] at q
      rw [e1] at q ⊢
      omega
  have s2 := v19_4.toInt_lt
  have o2 : (2 : Int64).toInt = 2 := rfl
  have i1 := c_i2l v19_4
  have w2 : ((2 : Int64) * (v19_4.toInt64)).toInt = 2 * v19_4.toInt := by rw [x_lmul (by rw [i1, o2]; omega) (by rw [i1, o2]; omega), i1, o2]
  intro q
  rw [q] at w2
  simp only [Int64.reduceToInt] at w2
  omega
theorem own_law_6 (a : Int32) (b : Int32) (cc : Int32) (nn : Int32) (h_nn : nn = (a &&& (7 : Int32))) (v19_4 : Int32) (h_v19_4 : v19_4 = (if (b &&& (2147483647 : Int32)) = (0 : Int32) then (1 : Int32) else (b &&& (2147483647 : Int32)))) (p1 : Int64) (hp1 : p1.toInt = if nn.toInt < 1 then nn.toInt else 1) (p2 : Int64) (hp2 : p2.toInt = if nn.toInt < 2 then nn.toInt else 2) (p3 : Int64) (hp3 : p3.toInt = if nn.toInt < 3 then nn.toInt else 3) (p4 : Int64) (hp4 : p4.toInt = if nn.toInt < 4 then nn.toInt else 4) (p5 : Int64) (hp5 : p5.toInt = if nn.toInt < 5 then nn.toInt else 5) (p6 : Int64) (hp6 : p6.toInt = if nn.toInt < 6 then nn.toInt else 6) (p7 : Int64) (hp7 : p7.toInt = if nn.toInt < 7 then nn.toInt else 7) (hc110 : ¬ ((cc &&& (1 : Int32)) = (0 : Int32))) (failed115 : Int64) (h_failed115 : failed115 = (q7 + (1 : Int64))) (z122 : Int64) (h_z122 : z122 = ((((2 : Int64) * p7) + (v19_4.toInt64)) / ((2 : Int64) * (v19_4.toInt64)))) : (v19_4.toInt64) ≠ 0 := by
  have s1 : 0 < v19_4.toInt := by
    have e1 := c_mask b 2147483647 31 (by decide) (by decide)
    rw [h_v19_4]
    split
    · decide
    · rename_i q
      rw [← Int32.toInt_inj] at q
      simp only [Int32.reduceToInt] at q
      rw [e1] at q ⊢
      omega
  have s2 := v19_4.toInt_lt
  have o2 : (2 : Int64).toInt = 2 := rfl
  have i1 := c_i2l v19_4
  have w2 : ((2 : Int64) * (v19_4.toInt64)).toInt = 2 * v19_4.toInt := by rw [x_lmul (by rw [i1, o2]; omega) (by rw [i1, o2]; omega), i1, o2]
  intro q
  rw [q] at i1
  simp only [Int64.reduceToInt] at i1
  omega
theorem own_law_7 (a : Int32) (b : Int32) (cc : Int32) (nn : Int32) (h_nn : nn = (a &&& (7 : Int32))) (v19_4 : Int32) (h_v19_4 : v19_4 = (if (b &&& (2147483647 : Int32)) = (0 : Int32) then (1 : Int32) else (b &&& (2147483647 : Int32)))) (p1 : Int64) (hp1 : p1.toInt = if nn.toInt < 1 then nn.toInt else 1) (p2 : Int64) (hp2 : p2.toInt = if nn.toInt < 2 then nn.toInt else 2) (p3 : Int64) (hp3 : p3.toInt = if nn.toInt < 3 then nn.toInt else 3) (p4 : Int64) (hp4 : p4.toInt = if nn.toInt < 4 then nn.toInt else 4) (p5 : Int64) (hp5 : p5.toInt = if nn.toInt < 5 then nn.toInt else 5) (p6 : Int64) (hp6 : p6.toInt = if nn.toInt < 6 then nn.toInt else 6) (p7 : Int64) (hp7 : p7.toInt = if nn.toInt < 7 then nn.toInt else 7) (hc110 : ¬ ((cc &&& (1 : Int32)) = (0 : Int32))) (failed115 : Int64) (h_failed115 : failed115 = (q7 + (1 : Int64))) (z122 : Int64) (h_z122 : z122 = ((((2 : Int64) * p7) + (v19_4.toInt64)) / ((2 : Int64) * (v19_4.toInt64)))) : (v19_4.toInt64) ≠ 0 := by
  have s1 : 0 < v19_4.toInt := by
    have e1 := c_mask b 2147483647 31 (by decide) (by decide)
    rw [h_v19_4]
    split
    · decide
    · rename_i q
      rw [← Int32.toInt_inj] at q
      simp only [Int32.reduceToInt] at q
      rw [e1] at q ⊢
      omega
  have s2 := v19_4.toInt_lt
  have o2 : (2 : Int64).toInt = 2 := rfl
  have i1 := c_i2l v19_4
  have w2 : ((2 : Int64) * (v19_4.toInt64)).toInt = 2 * v19_4.toInt := by rw [x_lmul (by rw [i1, o2]; omega) (by rw [i1, o2]; omega), i1, o2]
  intro q
  rw [q] at i1
  simp only [Int64.reduceToInt] at i1
  omega
theorem own_law_8 (a : Int32) (b : Int32) (cc : Int32) (nn : Int32) (h_nn : nn = (a &&& (7 : Int32))) (v19_4 : Int32) (h_v19_4 : v19_4 = (if (b &&& (2147483647 : Int32)) = (0 : Int32) then (1 : Int32) else (b &&& (2147483647 : Int32)))) (p1 : Int64) (hp1 : p1.toInt = if nn.toInt < 1 then nn.toInt else 1) (p2 : Int64) (hp2 : p2.toInt = if nn.toInt < 2 then nn.toInt else 2) (p3 : Int64) (hp3 : p3.toInt = if nn.toInt < 3 then nn.toInt else 3) (p4 : Int64) (hp4 : p4.toInt = if nn.toInt < 4 then nn.toInt else 4) (p5 : Int64) (hp5 : p5.toInt = if nn.toInt < 5 then nn.toInt else 5) (p6 : Int64) (hp6 : p6.toInt = if nn.toInt < 6 then nn.toInt else 6) (p7 : Int64) (hp7 : p7.toInt = if nn.toInt < 7 then nn.toInt else 7) (hc110 : ¬ ((cc &&& (1 : Int32)) = (0 : Int32))) (failed115 : Int64) (h_failed115 : failed115 = (q7 + (1 : Int64))) (z122 : Int64) (h_z122 : z122 = ((((2 : Int64) * p7) + (v19_4.toInt64)) / ((2 : Int64) * (v19_4.toInt64)))) (v166_12 : Int64) (h_v166_12 : v166_12 = (if ((2 : Int64) * ((nn.toInt64) % (v19_4.toInt64))) < (v19_4.toInt64) then ((nn.toInt64) / (v19_4.toInt64)) else (((nn.toInt64) / (v19_4.toInt64)) + (1 : Int64)))) (s179_0 : Int32) (h_s179_0 : s179_0 = (if z122 = v166_12 then (1 : Int32) else (0 : Int32))) : nar .boolean s179_0 = 1 := by
  have n1 : 0 ≤ nn.toInt ∧ nn.toInt < 8 := by
    have e1 := c_mask a 7 3 (by decide) (by decide)
    rw [h_nn, e1]; omega
  have s1 : 0 < v19_4.toInt := by
    have e1 := c_mask b 2147483647 31 (by decide) (by decide)
    rw [h_v19_4]
    split
    · decide
    · rename_i q
      rw [← Int32.toInt_inj] at q
      simp only [Int32.reduceToInt] at q
      rw [e1] at q ⊢
      omega
  have s2 := v19_4.toInt_lt
  have o2 : (2 : Int64).toInt = 2 := rfl
  have i1 := c_i2l v19_4
  have w2 : ((2 : Int64) * (v19_4.toInt64)).toInt = 2 * v19_4.toInt := by rw [x_lmul (by rw [i1, o2]; omega) (by rw [i1, o2]; omega), i1, o2]
  have p1 : p7.toInt = nn.toInt := by rw [hp7]; split <;> omega
  have i2 := c_i2l nn
  have w1 : ((2 : Int64) * p7).toInt = 2 * nn.toInt := by rw [x_lmul (by rw [p1, o2]; omega) (by rw [p1, o2]; omega), p1, o2]
  have w3 : (((2 : Int64) * p7) + (v19_4.toInt64)).toInt = 2 * nn.toInt + v19_4.toInt := by rw [x_ladd (by rw [w1, i1]; omega) (by rw [w1, i1]; omega), w1, i1]
  have m1 : ((2 : Int64) * (v19_4.toInt64)) ≠ -1 := by
    intro q; rw [q] at w2; simp only [Int64.reduceToInt] at w2; omega
  have g1 : z122.toInt = (2 * nn.toInt + v19_4.toInt) / (2 * v19_4.toInt) := by
    rw [h_z122, (c_ldiv _ _ (2 * v19_4.toInt) w2 m1).1 (by rw [w3]; omega), w3]
  rw [own_div nn.toInt v19_4.toInt s1 n1.1] at g1
  have m2 : (v19_4.toInt64) ≠ -1 := by
    intro q; rw [q] at i1; simp only [Int64.reduceToInt] at i1; omega
  have g2 : (nn.toInt64 / v19_4.toInt64).toInt = nn.toInt / v19_4.toInt := by
    rw [(c_ldiv _ _ v19_4.toInt i1 m2).1 (by rw [i2]; omega), i2]
  have g3 : (nn.toInt64 % v19_4.toInt64).toInt = nn.toInt % v19_4.toInt := by
    rw [(c_lmod _ _ v19_4.toInt i1).1 (by rw [i2]; omega), i2]
  have r1 := Int.emod_nonneg nn.toInt (show v19_4.toInt ≠ 0 by omega)
  have r2 := Int.emod_lt_of_pos nn.toInt s1
  have r3 : 0 ≤ nn.toInt / v19_4.toInt := Int.ediv_nonneg n1.1 (by omega)
  have r4 : nn.toInt / v19_4.toInt ≤ nn.toInt := Int.ediv_le_self _ n1.1
  have g4 : ((2 : Int64) * (nn.toInt64 % v19_4.toInt64)).toInt = 2 * (nn.toInt % v19_4.toInt) := by rw [x_lmul (by rw [g3, o2]; omega) (by rw [g3, o2]; omega), g3, o2]
  have o1 : (1 : Int64).toInt = 1 := rfl
  have g5 : ((nn.toInt64 / v19_4.toInt64) + (1 : Int64)).toInt = nn.toInt / v19_4.toInt + 1 := by rw [x_ladd (by rw [g2, o1]; omega) (by rw [g2, o1]; omega), g2, o1]
  have k2 : z122 = v166_12 := by
    rw [h_v166_12, ← Int64.toInt_inj, g1]
    by_cases q : ((2 : Int64) * (nn.toInt64 % v19_4.toInt64)) < v19_4.toInt64
    · rw [if_pos q, g2]
      rw [Int64.lt_iff_toInt_lt, g4, i1] at q
      rw [if_pos q]; omega
    · rw [if_neg q, g5]
      rw [Int64.lt_iff_toInt_lt, g4, i1] at q
      rw [if_neg q]
  rw [h_s179_0, if_pos k2]; rfl
theorem own_law_9 (a : Int32) (b : Int32) (cc : Int32) (nn : Int32) (h_nn : nn = (a &&& (7 : Int32))) (v19_4 : Int32) (h_v19_4 : v19_4 = (if (b &&& (2147483647 : Int32)) = (0 : Int32) then (1 : Int32) else (b &&& (2147483647 : Int32)))) (p1 : Int64) (hp1 : p1.toInt = if nn.toInt < 1 then nn.toInt else 1) (p2 : Int64) (hp2 : p2.toInt = if nn.toInt < 2 then nn.toInt else 2) (p3 : Int64) (hp3 : p3.toInt = if nn.toInt < 3 then nn.toInt else 3) (p4 : Int64) (hp4 : p4.toInt = if nn.toInt < 4 then nn.toInt else 4) (p5 : Int64) (hp5 : p5.toInt = if nn.toInt < 5 then nn.toInt else 5) (p6 : Int64) (hp6 : p6.toInt = if nn.toInt < 6 then nn.toInt else 6) (hc98 : nn < (7 : Int32)) : p6.toInt = if nn.toInt < 7 then nn.toInt else 7 := by
  have n1 : 0 ≤ nn.toInt ∧ nn.toInt < 8 := by
    have e1 := c_mask a 7 3 (by decide) (by decide)
    rw [h_nn, e1]; omega
  rw [Int32.lt_iff_toInt_lt] at hc98
  simp only [Int32.reduceToInt] at hc98
  rw [hp6]
  (repeat' split) <;> omega
theorem own_law_10 (a : Int32) (b : Int32) (cc : Int32) (nn : Int32) (h_nn : nn = (a &&& (7 : Int32))) (v19_4 : Int32) (h_v19_4 : v19_4 = (if (b &&& (2147483647 : Int32)) = (0 : Int32) then (1 : Int32) else (b &&& (2147483647 : Int32)))) (p1 : Int64) (hp1 : p1.toInt = if nn.toInt < 1 then nn.toInt else 1) (p2 : Int64) (hp2 : p2.toInt = if nn.toInt < 2 then nn.toInt else 2) (p3 : Int64) (hp3 : p3.toInt = if nn.toInt < 3 then nn.toInt else 3) (p4 : Int64) (hp4 : p4.toInt = if nn.toInt < 4 then nn.toInt else 4) (p5 : Int64) (hp5 : p5.toInt = if nn.toInt < 5 then nn.toInt else 5) (p6 : Int64) (hp6 : p6.toInt = if nn.toInt < 6 then nn.toInt else 6) (hc98 : ¬ (nn < (7 : Int32))) (pairs104 : Int64) (h_pairs104 : pairs104 = (p6 + (1 : Int64))) : pairs104.toInt = if nn.toInt < 7 then nn.toInt else 7 := by
  have n1 : 0 ≤ nn.toInt ∧ nn.toInt < 8 := by
    have e1 := c_mask a 7 3 (by decide) (by decide)
    rw [h_nn, e1]; omega
  rw [Int32.lt_iff_toInt_lt] at hc98
  simp only [Int32.reduceToInt] at hc98
  have o1 : (1 : Int64).toInt = 1 := rfl
  rw [h_pairs104, x_ladd (by rw [hp6, o1]; (repeat' split) <;> omega) (by rw [hp6, o1]; (repeat' split) <;> omega), hp6, o1]
  (repeat' split) <;> omega
theorem own_law_11 (a : Int32) (b : Int32) (cc : Int32) (nn : Int32) (h_nn : nn = (a &&& (7 : Int32))) (v19_4 : Int32) (h_v19_4 : v19_4 = (if (b &&& (2147483647 : Int32)) = (0 : Int32) then (1 : Int32) else (b &&& (2147483647 : Int32)))) (p1 : Int64) (hp1 : p1.toInt = if nn.toInt < 1 then nn.toInt else 1) (p2 : Int64) (hp2 : p2.toInt = if nn.toInt < 2 then nn.toInt else 2) (p3 : Int64) (hp3 : p3.toInt = if nn.toInt < 3 then nn.toInt else 3) (p4 : Int64) (hp4 : p4.toInt = if nn.toInt < 4 then nn.toInt else 4) (p5 : Int64) (hp5 : p5.toInt = if nn.toInt < 5 then nn.toInt else 5) (hc86 : nn < (6 : Int32)) : p5.toInt = if nn.toInt < 6 then nn.toInt else 6 := by
  have n1 : 0 ≤ nn.toInt ∧ nn.toInt < 8 := by
    have e1 := c_mask a 7 3 (by decide) (by decide)
    rw [h_nn, e1]; omega
  rw [Int32.lt_iff_toInt_lt] at hc86
  simp only [Int32.reduceToInt] at hc86
  rw [hp5]
  (repeat' split) <;> omega
theorem own_law_12 (a : Int32) (b : Int32) (cc : Int32) (nn : Int32) (h_nn : nn = (a &&& (7 : Int32))) (v19_4 : Int32) (h_v19_4 : v19_4 = (if (b &&& (2147483647 : Int32)) = (0 : Int32) then (1 : Int32) else (b &&& (2147483647 : Int32)))) (p1 : Int64) (hp1 : p1.toInt = if nn.toInt < 1 then nn.toInt else 1) (p2 : Int64) (hp2 : p2.toInt = if nn.toInt < 2 then nn.toInt else 2) (p3 : Int64) (hp3 : p3.toInt = if nn.toInt < 3 then nn.toInt else 3) (p4 : Int64) (hp4 : p4.toInt = if nn.toInt < 4 then nn.toInt else 4) (p5 : Int64) (hp5 : p5.toInt = if nn.toInt < 5 then nn.toInt else 5) (hc86 : ¬ (nn < (6 : Int32))) (pairs92 : Int64) (h_pairs92 : pairs92 = (p5 + (1 : Int64))) : pairs92.toInt = if nn.toInt < 6 then nn.toInt else 6 := by
  have n1 : 0 ≤ nn.toInt ∧ nn.toInt < 8 := by
    have e1 := c_mask a 7 3 (by decide) (by decide)
    rw [h_nn, e1]; omega
  rw [Int32.lt_iff_toInt_lt] at hc86
  simp only [Int32.reduceToInt] at hc86
  have o1 : (1 : Int64).toInt = 1 := rfl
  rw [h_pairs92, x_ladd (by rw [hp5, o1]; (repeat' split) <;> omega) (by rw [hp5, o1]; (repeat' split) <;> omega), hp5, o1]
  (repeat' split) <;> omega
theorem own_law_13 (a : Int32) (b : Int32) (cc : Int32) (nn : Int32) (h_nn : nn = (a &&& (7 : Int32))) (v19_4 : Int32) (h_v19_4 : v19_4 = (if (b &&& (2147483647 : Int32)) = (0 : Int32) then (1 : Int32) else (b &&& (2147483647 : Int32)))) (p1 : Int64) (hp1 : p1.toInt = if nn.toInt < 1 then nn.toInt else 1) (p2 : Int64) (hp2 : p2.toInt = if nn.toInt < 2 then nn.toInt else 2) (p3 : Int64) (hp3 : p3.toInt = if nn.toInt < 3 then nn.toInt else 3) (p4 : Int64) (hp4 : p4.toInt = if nn.toInt < 4 then nn.toInt else 4) (hc74 : nn < (5 : Int32)) : p4.toInt = if nn.toInt < 5 then nn.toInt else 5 := by
  have n1 : 0 ≤ nn.toInt ∧ nn.toInt < 8 := by
    have e1 := c_mask a 7 3 (by decide) (by decide)
    rw [h_nn, e1]; omega
  rw [Int32.lt_iff_toInt_lt] at hc74
  simp only [Int32.reduceToInt] at hc74
  rw [hp4]
  (repeat' split) <;> omega
theorem own_law_14 (a : Int32) (b : Int32) (cc : Int32) (nn : Int32) (h_nn : nn = (a &&& (7 : Int32))) (v19_4 : Int32) (h_v19_4 : v19_4 = (if (b &&& (2147483647 : Int32)) = (0 : Int32) then (1 : Int32) else (b &&& (2147483647 : Int32)))) (p1 : Int64) (hp1 : p1.toInt = if nn.toInt < 1 then nn.toInt else 1) (p2 : Int64) (hp2 : p2.toInt = if nn.toInt < 2 then nn.toInt else 2) (p3 : Int64) (hp3 : p3.toInt = if nn.toInt < 3 then nn.toInt else 3) (p4 : Int64) (hp4 : p4.toInt = if nn.toInt < 4 then nn.toInt else 4) (hc74 : ¬ (nn < (5 : Int32))) (pairs80 : Int64) (h_pairs80 : pairs80 = (p4 + (1 : Int64))) : pairs80.toInt = if nn.toInt < 5 then nn.toInt else 5 := by
  have n1 : 0 ≤ nn.toInt ∧ nn.toInt < 8 := by
    have e1 := c_mask a 7 3 (by decide) (by decide)
    rw [h_nn, e1]; omega
  rw [Int32.lt_iff_toInt_lt] at hc74
  simp only [Int32.reduceToInt] at hc74
  have o1 : (1 : Int64).toInt = 1 := rfl
  rw [h_pairs80, x_ladd (by rw [hp4, o1]; (repeat' split) <;> omega) (by rw [hp4, o1]; (repeat' split) <;> omega), hp4, o1]
  (repeat' split) <;> omega
theorem own_law_15 (a : Int32) (b : Int32) (cc : Int32) (nn : Int32) (h_nn : nn = (a &&& (7 : Int32))) (v19_4 : Int32) (h_v19_4 : v19_4 = (if (b &&& (2147483647 : Int32)) = (0 : Int32) then (1 : Int32) else (b &&& (2147483647 : Int32)))) (p1 : Int64) (hp1 : p1.toInt = if nn.toInt < 1 then nn.toInt else 1) (p2 : Int64) (hp2 : p2.toInt = if nn.toInt < 2 then nn.toInt else 2) (p3 : Int64) (hp3 : p3.toInt = if nn.toInt < 3 then nn.toInt else 3) (hc63 : nn < (4 : Int32)) : p3.toInt = if nn.toInt < 4 then nn.toInt else 4 := by
  have n1 : 0 ≤ nn.toInt ∧ nn.toInt < 8 := by
    have e1 := c_mask a 7 3 (by decide) (by decide)
    rw [h_nn, e1]; omega
  rw [Int32.lt_iff_toInt_lt] at hc63
  simp only [Int32.reduceToInt] at hc63
  rw [hp3]
  (repeat' split) <;> omega
theorem own_law_16 (a : Int32) (b : Int32) (cc : Int32) (nn : Int32) (h_nn : nn = (a &&& (7 : Int32))) (v19_4 : Int32) (h_v19_4 : v19_4 = (if (b &&& (2147483647 : Int32)) = (0 : Int32) then (1 : Int32) else (b &&& (2147483647 : Int32)))) (p1 : Int64) (hp1 : p1.toInt = if nn.toInt < 1 then nn.toInt else 1) (p2 : Int64) (hp2 : p2.toInt = if nn.toInt < 2 then nn.toInt else 2) (p3 : Int64) (hp3 : p3.toInt = if nn.toInt < 3 then nn.toInt else 3) (hc63 : ¬ (nn < (4 : Int32))) (pairs69 : Int64) (h_pairs69 : pairs69 = (p3 + (1 : Int64))) : pairs69.toInt = if nn.toInt < 4 then nn.toInt else 4 := by
  have n1 : 0 ≤ nn.toInt ∧ nn.toInt < 8 := by
    have e1 := c_mask a 7 3 (by decide) (by decide)
    rw [h_nn, e1]; omega
  rw [Int32.lt_iff_toInt_lt] at hc63
  simp only [Int32.reduceToInt] at hc63
  have o1 : (1 : Int64).toInt = 1 := rfl
  rw [h_pairs69, x_ladd (by rw [hp3, o1]; (repeat' split) <;> omega) (by rw [hp3, o1]; (repeat' split) <;> omega), hp3, o1]
  (repeat' split) <;> omega
theorem own_law_17 (a : Int32) (b : Int32) (cc : Int32) (nn : Int32) (h_nn : nn = (a &&& (7 : Int32))) (v19_4 : Int32) (h_v19_4 : v19_4 = (if (b &&& (2147483647 : Int32)) = (0 : Int32) then (1 : Int32) else (b &&& (2147483647 : Int32)))) (p1 : Int64) (hp1 : p1.toInt = if nn.toInt < 1 then nn.toInt else 1) (p2 : Int64) (hp2 : p2.toInt = if nn.toInt < 2 then nn.toInt else 2) (hc52 : nn < (3 : Int32)) : p2.toInt = if nn.toInt < 3 then nn.toInt else 3 := by
  have n1 : 0 ≤ nn.toInt ∧ nn.toInt < 8 := by
    have e1 := c_mask a 7 3 (by decide) (by decide)
    rw [h_nn, e1]; omega
  rw [Int32.lt_iff_toInt_lt] at hc52
  simp only [Int32.reduceToInt] at hc52
  rw [hp2]
  (repeat' split) <;> omega
theorem own_law_18 (a : Int32) (b : Int32) (cc : Int32) (nn : Int32) (h_nn : nn = (a &&& (7 : Int32))) (v19_4 : Int32) (h_v19_4 : v19_4 = (if (b &&& (2147483647 : Int32)) = (0 : Int32) then (1 : Int32) else (b &&& (2147483647 : Int32)))) (p1 : Int64) (hp1 : p1.toInt = if nn.toInt < 1 then nn.toInt else 1) (p2 : Int64) (hp2 : p2.toInt = if nn.toInt < 2 then nn.toInt else 2) (hc52 : ¬ (nn < (3 : Int32))) (pairs58 : Int64) (h_pairs58 : pairs58 = (p2 + (1 : Int64))) : pairs58.toInt = if nn.toInt < 3 then nn.toInt else 3 := by
  have n1 : 0 ≤ nn.toInt ∧ nn.toInt < 8 := by
    have e1 := c_mask a 7 3 (by decide) (by decide)
    rw [h_nn, e1]; omega
  rw [Int32.lt_iff_toInt_lt] at hc52
  simp only [Int32.reduceToInt] at hc52
  have o1 : (1 : Int64).toInt = 1 := rfl
  rw [h_pairs58, x_ladd (by rw [hp2, o1]; (repeat' split) <;> omega) (by rw [hp2, o1]; (repeat' split) <;> omega), hp2, o1]
  (repeat' split) <;> omega
theorem own_law_19 (a : Int32) (b : Int32) (cc : Int32) (nn : Int32) (h_nn : nn = (a &&& (7 : Int32))) (v19_4 : Int32) (h_v19_4 : v19_4 = (if (b &&& (2147483647 : Int32)) = (0 : Int32) then (1 : Int32) else (b &&& (2147483647 : Int32)))) (p1 : Int64) (hp1 : p1.toInt = if nn.toInt < 1 then nn.toInt else 1) (hc41 : nn < (2 : Int32)) : p1.toInt = if nn.toInt < 2 then nn.toInt else 2 := by
  have n1 : 0 ≤ nn.toInt ∧ nn.toInt < 8 := by
    have e1 := c_mask a 7 3 (by decide) (by decide)
    rw [h_nn, e1]; omega
  rw [Int32.lt_iff_toInt_lt] at hc41
  simp only [Int32.reduceToInt] at hc41
  rw [hp1]
  (repeat' split) <;> omega
theorem own_law_20 (a : Int32) (b : Int32) (cc : Int32) (nn : Int32) (h_nn : nn = (a &&& (7 : Int32))) (v19_4 : Int32) (h_v19_4 : v19_4 = (if (b &&& (2147483647 : Int32)) = (0 : Int32) then (1 : Int32) else (b &&& (2147483647 : Int32)))) (p1 : Int64) (hp1 : p1.toInt = if nn.toInt < 1 then nn.toInt else 1) (hc41 : ¬ (nn < (2 : Int32))) (pairs47 : Int64) (h_pairs47 : pairs47 = (p1 + (1 : Int64))) : pairs47.toInt = if nn.toInt < 2 then nn.toInt else 2 := by
  have n1 : 0 ≤ nn.toInt ∧ nn.toInt < 8 := by
    have e1 := c_mask a 7 3 (by decide) (by decide)
    rw [h_nn, e1]; omega
  rw [Int32.lt_iff_toInt_lt] at hc41
  simp only [Int32.reduceToInt] at hc41
  have o1 : (1 : Int64).toInt = 1 := rfl
  rw [h_pairs47, x_ladd (by rw [hp1, o1]; (repeat' split) <;> omega) (by rw [hp1, o1]; (repeat' split) <;> omega), hp1, o1]
  (repeat' split) <;> omega
theorem own_law_21 (a : Int32) (b : Int32) (cc : Int32) (nn : Int32) (h_nn : nn = (a &&& (7 : Int32))) (v19_4 : Int32) (h_v19_4 : v19_4 = (if (b &&& (2147483647 : Int32)) = (0 : Int32) then (1 : Int32) else (b &&& (2147483647 : Int32)))) (hc30 : nn < (1 : Int32)) : (0 : Int64).toInt = if nn.toInt < 1 then nn.toInt else 1 := by
  have n1 : 0 ≤ nn.toInt ∧ nn.toInt < 8 := by
    have e1 := c_mask a 7 3 (by decide) (by decide)
    rw [h_nn, e1]; omega
  rw [Int32.lt_iff_toInt_lt] at hc30
  simp only [Int32.reduceToInt] at hc30
  have o0 : (0 : Int64).toInt = 0 := rfl
  rw [o0]
  (repeat' split) <;> omega
theorem own_law_22 (a : Int32) (b : Int32) (cc : Int32) (nn : Int32) (h_nn : nn = (a &&& (7 : Int32))) (v19_4 : Int32) (h_v19_4 : v19_4 = (if (b &&& (2147483647 : Int32)) = (0 : Int32) then (1 : Int32) else (b &&& (2147483647 : Int32)))) (hc30 : ¬ (nn < (1 : Int32))) (pairs36 : Int64) (h_pairs36 : pairs36 = ((0 : Int64) + (1 : Int64))) : pairs36.toInt = if nn.toInt < 1 then nn.toInt else 1 := by
  have n1 : 0 ≤ nn.toInt ∧ nn.toInt < 8 := by
    have e1 := c_mask a 7 3 (by decide) (by decide)
    rw [h_nn, e1]; omega
  rw [Int32.lt_iff_toInt_lt] at hc30
  simp only [Int32.reduceToInt] at hc30
  have o0 : (0 : Int64).toInt = 0 := rfl
  have o1 : (1 : Int64).toInt = 1 := rfl
  rw [h_pairs36, x_ladd (by rw [o0, o1]; omega) (by rw [o0, o1]; omega), o0, o1]
  (repeat' split) <;> omega
theorem pn_law : plainFor x = true := by first | (refine plainFor_of_name ?_; show plainName "com/example/usher/usher/cli/TallyPairsPerSecondPinLaw" = true; simp [plainName, overriddenIn]; done) | decide +kernel
set_option maxRecDepth 65536 in
set_option maxHeartbeats 40000000 in
theorem c_law (l : Launch) (Z : State) (a0 : Array Value) (hw : ∀ d ∈ tables_1, d.before a0 Z = true) (a : Int32) (b : Int32) (cc : Int32) (h0 : Heap) (n0 : Nat) (Z0 : n0 ≤ h0.size) :
    Con l Z x code maxLocals ret room_1 #[.int a, .int b, .int cc] h0 n0 QL tables_1 := by
  refine con_of_wp pn_law (L0 := #[.val (.int a), .val (.int b), .val (.int cc), .unset, .unset, .unset, .unset, .unset, .unset, .unset, .unset, .unset, .unset, .unset]) (fun m => by first | (simp [entryFrame, mkF, argsToLocals, Value.category, maxLocals]; done) | rfl) (fun X hl ok => ?_)
  subst hl
  have hK : Konst Z a0 "com/example/usher/usher/cli/TallyPairsPerSecondPinLaw" k_law := ⟨Or.inl ⟨_, rfl, wd hw 0 rfl⟩, ⟨Or.inr ⟨_, rfl, wd hw 39 rfl⟩, trivial⟩⟩
  refine wp_run ok hK (B := [(0, .iload_n 0, false), (1, .bipush 7, false), (3, .iand, false), (4, .istore_n 3, false)]) (by decide +kernel) (pc' := 5) (L' := #[.val (.int a), .val (.int b), .val (.int cc), .val (.int (a &&& (7 : Int32))), .unset, .unset, .unset, .unset, .unset, .unset, .unset, .unset, .unset, .unset]) (S' := []) rfl trivial ?_
  obtain ⟨nn, h_nn⟩ : ∃ z : Int32, z = (a &&& (7 : Int32)) := ⟨_, rfl⟩
  rw [← h_nn]
  refine wp_run ok hK (B := [(5, .iload_n 1, false), (6, .ldc 7, false), (8, .iand, false), (9, .istore 4, false), (11, .iload 4, false)]) (by decide +kernel) (pc' := 13) (L' := #[.val (.int a), .val (.int b), .val (.int cc), .val (.int nn), .val (.int (b &&& (2147483647 : Int32))), .unset, .unset, .unset, .unset, .unset, .unset, .unset, .unset, .unset]) (S' := [.int (b &&& (2147483647 : Int32))]) rfl trivial ?_
  have J19_2 : ∀ (v19_4 : Int32) (h_v19_4 : v19_4 = (if (b &&& (2147483647 : Int32)) = (0 : Int32) then (1 : Int32) else (b &&& (2147483647 : Int32)))), WP X n0 QL h0 0 0 19 #[.val (.int a), .val (.int b), .val (.int cc), .val (.int nn), .val (.int v19_4), .unset, .unset, .unset, .unset, .unset, .unset, .unset, .unset, .unset] [] := by
    intro v19_4 h_v19_4
    refine wp_new ok (wd hw 1 rfl) (wd hw 2 rfl) (wd hw 3 rfl) (by decide +kernel) (by decide) (by decide) ?_
    intro h3 a4 ea5 X6 E7 D8
    have Z9 : n0 ≤ h3.size := Nat.le_trans Z0 X6.1
    have g10 : n0 ≤ a4 := by rw [ea5]; exact Z0
    have F11 : Fld Z h3 a4 "com/example/usher/usher/cli/Tally" "dense" "[J" (.null) := D8 (Or.inr (wd hw 12 rfl)) (ty := (.array .long)) (by decide)
    have F12 : Fld Z h3 a4 "com/example/usher/usher/cli/Tally" "sparse" "Ljava/util/Map;" (.null) := D8 (Or.inr (wd hw 30 rfl)) (ty := (.object "java/util/Map")) (by decide)
    have F13 : Fld Z h3 a4 "com/example/usher/usher/cli/Tally" "pairs" "J" (.long (0 : Int64)) := D8 (Or.inl (wd hw 38 rfl)) (ty := .long) (by decide)
    have F14 : Fld Z h3 a4 "com/example/usher/usher/cli/Tally" "failed" "J" (.long (0 : Int64)) := D8 (Or.inl (wd hw 53 rfl)) (ty := .long) (by decide)
    refine wp_run ok hK (B := [(22, .dup, false)]) (by decide +kernel) (pc' := 23) (L' := #[.val (.int a), .val (.int b), .val (.int cc), .val (.int nn), .val (.int v19_4), .unset, .unset, .unset, .unset, .unset, .unset, .unset, .unset, .unset]) (S' := [(.ref a4), (.ref a4)]) rfl trivial ?_
    refine wp_special ok rfl (wd hw 4 rfl) (wd hw 5 rfl) (wd hw 3 rfl) (wd hw 6 rfl) (by decide) (argsL := []) (rest := [(.ref a4)]) (c_ini _ Z a0 hw a4 h3 n0 Z9 E7 F11 F12 F13 F14 g10) (ps := []) (by decide +kernel) (by rfl) (by rfl) (by rfl) (by decide +kernel) (by decide) (Nat.le_of_ble_eq_true rfl) (by decide) (by decide) ?_
    intro r22 h23 q24
    obtain ⟨a15, rfl, K16, g17, F18, F19, F20, A21⟩ := q24
    have E25 := E7.keep K16
    have g26 : n0 ≤ a15 := Nat.le_trans Z9 g17
    have Z27 : n0 ≤ h23.size := Nat.le_trans Z9 K16.1
    have e28 : (fun _ => Value.long (0 : Int64)) 0 = .long (0 : Int64) := rfl
    have N29 : a4 ≠ a15 := ne_ar E25 (wd hw 2 rfl) A21
    show WP X n0 QL h23 3 4108 26 #[.val (.int a), .val (.int b), .val (.int cc), .val (.int nn), .val (.int v19_4), .unset, .unset, .unset, .unset, .unset, .unset, .unset, .unset, .unset] [(.ref a4)]
    refine wp_run ok hK (B := [(26, .astore 5, false), (28, .iload_n 3, false), (29, .iconst 1, false)]) (by decide +kernel) (pc' := 30) (L' := #[.val (.int a), .val (.int b), .val (.int cc), .val (.int nn), .val (.int v19_4), .val ((.ref a4)), .unset, .unset, .unset, .unset, .unset, .unset, .unset, .unset]) (S' := [.int (1 : Int32), .int nn]) rfl trivial ?_
    have JH39_30 : ∀ (hJ1 : Heap) (p1 d1 q1 : Int64) (f1 : Nat → Value) (ZJ1 : n0 ≤ hJ1.size) (EJ1 : Exa Z hJ1 a4 "com/example/usher/usher/cli/Tally") (FA1 : Fld Z hJ1 a4 "com/example/usher/usher/cli/Tally" "dense" "[J" (.ref a15)) (FB1 : Fld Z hJ1 a4 "com/example/usher/usher/cli/Tally" "pairs" "J" (.long p1)) (FC1 : Fld Z hJ1 a4 "com/example/usher/usher/cli/Tally" "failed" "J" (.long q1)) (AJ1 : Ar Z hJ1 a15 .long 4096 f1) (ej1 : f1 0 = .long d1) (hp1 : p1.toInt = if nn.toInt < 1 then nn.toInt else 1), WP X n0 QL hJ1 3 4108 39 #[.val (.int a), .val (.int b), .val (.int cc), .val (.int nn), .val (.int v19_4), .val ((.ref a4)), .unset, .unset, .unset, .unset, .unset, .unset, .unset, .unset] [] := by
      intro hJ1 p1 d1 q1 f1 ZJ1 EJ1 FA1 FB1 FC1 AJ1 ej1 hp1
      refine wp_run ok hK (B := [(39, .iload_n 3, false), (40, .iconst 2, false)]) (by decide +kernel) (pc' := 41) (L' := #[.val (.int a), .val (.int b), .val (.int cc), .val (.int nn), .val (.int v19_4), .val ((.ref a4)), .unset, .unset, .unset, .unset, .unset, .unset, .unset, .unset]) (S' := [.int (2 : Int32), .int nn]) rfl trivial ?_
      have JH50_31 : ∀ (hJ2 : Heap) (p2 d2 q2 : Int64) (f2 : Nat → Value) (ZJ2 : n0 ≤ hJ2.size) (EJ2 : Exa Z hJ2 a4 "com/example/usher/usher/cli/Tally") (FA2 : Fld Z hJ2 a4 "com/example/usher/usher/cli/Tally" "dense" "[J" (.ref a15)) (FB2 : Fld Z hJ2 a4 "com/example/usher/usher/cli/Tally" "pairs" "J" (.long p2)) (FC2 : Fld Z hJ2 a4 "com/example/usher/usher/cli/Tally" "failed" "J" (.long q2)) (AJ2 : Ar Z hJ2 a15 .long 4096 f2) (ej2 : f2 0 = .long d2) (hp2 : p2.toInt = if nn.toInt < 2 then nn.toInt else 2), WP X n0 QL hJ2 3 4108 50 #[.val (.int a), .val (.int b), .val (.int cc), .val (.int nn), .val (.int v19_4), .val ((.ref a4)), .unset, .unset, .unset, .unset, .unset, .unset, .unset, .unset] [] := by
        intro hJ2 p2 d2 q2 f2 ZJ2 EJ2 FA2 FB2 FC2 AJ2 ej2 hp2
        refine wp_run ok hK (B := [(50, .iload_n 3, false), (51, .iconst 3, false)]) (by decide +kernel) (pc' := 52) (L' := #[.val (.int a), .val (.int b), .val (.int cc), .val (.int nn), .val (.int v19_4), .val ((.ref a4)), .unset, .unset, .unset, .unset, .unset, .unset, .unset, .unset]) (S' := [.int (3 : Int32), .int nn]) rfl trivial ?_
        have JH61_32 : ∀ (hJ3 : Heap) (p3 d3 q3 : Int64) (f3 : Nat → Value) (ZJ3 : n0 ≤ hJ3.size) (EJ3 : Exa Z hJ3 a4 "com/example/usher/usher/cli/Tally") (FA3 : Fld Z hJ3 a4 "com/example/usher/usher/cli/Tally" "dense" "[J" (.ref a15)) (FB3 : Fld Z hJ3 a4 "com/example/usher/usher/cli/Tally" "pairs" "J" (.long p3)) (FC3 : Fld Z hJ3 a4 "com/example/usher/usher/cli/Tally" "failed" "J" (.long q3)) (AJ3 : Ar Z hJ3 a15 .long 4096 f3) (ej3 : f3 0 = .long d3) (hp3 : p3.toInt = if nn.toInt < 3 then nn.toInt else 3), WP X n0 QL hJ3 3 4108 61 #[.val (.int a), .val (.int b), .val (.int cc), .val (.int nn), .val (.int v19_4), .val ((.ref a4)), .unset, .unset, .unset, .unset, .unset, .unset, .unset, .unset] [] := by
          intro hJ3 p3 d3 q3 f3 ZJ3 EJ3 FA3 FB3 FC3 AJ3 ej3 hp3
          refine wp_run ok hK (B := [(61, .iload_n 3, false), (62, .iconst 4, false)]) (by decide +kernel) (pc' := 63) (L' := #[.val (.int a), .val (.int b), .val (.int cc), .val (.int nn), .val (.int v19_4), .val ((.ref a4)), .unset, .unset, .unset, .unset, .unset, .unset, .unset, .unset]) (S' := [.int (4 : Int32), .int nn]) rfl trivial ?_
          have JH72_33 : ∀ (hJ4 : Heap) (p4 d4 q4 : Int64) (f4 : Nat → Value) (ZJ4 : n0 ≤ hJ4.size) (EJ4 : Exa Z hJ4 a4 "com/example/usher/usher/cli/Tally") (FA4 : Fld Z hJ4 a4 "com/example/usher/usher/cli/Tally" "dense" "[J" (.ref a15)) (FB4 : Fld Z hJ4 a4 "com/example/usher/usher/cli/Tally" "pairs" "J" (.long p4)) (FC4 : Fld Z hJ4 a4 "com/example/usher/usher/cli/Tally" "failed" "J" (.long q4)) (AJ4 : Ar Z hJ4 a15 .long 4096 f4) (ej4 : f4 0 = .long d4) (hp4 : p4.toInt = if nn.toInt < 4 then nn.toInt else 4), WP X n0 QL hJ4 3 4108 72 #[.val (.int a), .val (.int b), .val (.int cc), .val (.int nn), .val (.int v19_4), .val ((.ref a4)), .unset, .unset, .unset, .unset, .unset, .unset, .unset, .unset] [] := by
            intro hJ4 p4 d4 q4 f4 ZJ4 EJ4 FA4 FB4 FC4 AJ4 ej4 hp4
            refine wp_run ok hK (B := [(72, .iload_n 3, false), (73, .iconst 5, false)]) (by decide +kernel) (pc' := 74) (L' := #[.val (.int a), .val (.int b), .val (.int cc), .val (.int nn), .val (.int v19_4), .val ((.ref a4)), .unset, .unset, .unset, .unset, .unset, .unset, .unset, .unset]) (S' := [.int (5 : Int32), .int nn]) rfl trivial ?_
            have JH83_34 : ∀ (hJ5 : Heap) (p5 d5 q5 : Int64) (f5 : Nat → Value) (ZJ5 : n0 ≤ hJ5.size) (EJ5 : Exa Z hJ5 a4 "com/example/usher/usher/cli/Tally") (FA5 : Fld Z hJ5 a4 "com/example/usher/usher/cli/Tally" "dense" "[J" (.ref a15)) (FB5 : Fld Z hJ5 a4 "com/example/usher/usher/cli/Tally" "pairs" "J" (.long p5)) (FC5 : Fld Z hJ5 a4 "com/example/usher/usher/cli/Tally" "failed" "J" (.long q5)) (AJ5 : Ar Z hJ5 a15 .long 4096 f5) (ej5 : f5 0 = .long d5) (hp5 : p5.toInt = if nn.toInt < 5 then nn.toInt else 5), WP X n0 QL hJ5 3 4108 83 #[.val (.int a), .val (.int b), .val (.int cc), .val (.int nn), .val (.int v19_4), .val ((.ref a4)), .unset, .unset, .unset, .unset, .unset, .unset, .unset, .unset] [] := by
              intro hJ5 p5 d5 q5 f5 ZJ5 EJ5 FA5 FB5 FC5 AJ5 ej5 hp5
              refine wp_run ok hK (B := [(83, .iload_n 3, false), (84, .bipush 6, false)]) (by decide +kernel) (pc' := 86) (L' := #[.val (.int a), .val (.int b), .val (.int cc), .val (.int nn), .val (.int v19_4), .val ((.ref a4)), .unset, .unset, .unset, .unset, .unset, .unset, .unset, .unset]) (S' := [.int (6 : Int32), .int nn]) rfl trivial ?_
              have JH95_35 : ∀ (hJ6 : Heap) (p6 d6 q6 : Int64) (f6 : Nat → Value) (ZJ6 : n0 ≤ hJ6.size) (EJ6 : Exa Z hJ6 a4 "com/example/usher/usher/cli/Tally") (FA6 : Fld Z hJ6 a4 "com/example/usher/usher/cli/Tally" "dense" "[J" (.ref a15)) (FB6 : Fld Z hJ6 a4 "com/example/usher/usher/cli/Tally" "pairs" "J" (.long p6)) (FC6 : Fld Z hJ6 a4 "com/example/usher/usher/cli/Tally" "failed" "J" (.long q6)) (AJ6 : Ar Z hJ6 a15 .long 4096 f6) (ej6 : f6 0 = .long d6) (hp6 : p6.toInt = if nn.toInt < 6 then nn.toInt else 6), WP X n0 QL hJ6 3 4108 95 #[.val (.int a), .val (.int b), .val (.int cc), .val (.int nn), .val (.int v19_4), .val ((.ref a4)), .unset, .unset, .unset, .unset, .unset, .unset, .unset, .unset] [] := by
                intro hJ6 p6 d6 q6 f6 ZJ6 EJ6 FA6 FB6 FC6 AJ6 ej6 hp6
                refine wp_run ok hK (B := [(95, .iload_n 3, false), (96, .bipush 7, false)]) (by decide +kernel) (pc' := 98) (L' := #[.val (.int a), .val (.int b), .val (.int cc), .val (.int nn), .val (.int v19_4), .val ((.ref a4)), .unset, .unset, .unset, .unset, .unset, .unset, .unset, .unset]) (S' := [.int (7 : Int32), .int nn]) rfl trivial ?_
                have JH107_36 : ∀ (hJ7 : Heap) (p7 d7 q7 : Int64) (f7 : Nat → Value) (ZJ7 : n0 ≤ hJ7.size) (EJ7 : Exa Z hJ7 a4 "com/example/usher/usher/cli/Tally") (FA7 : Fld Z hJ7 a4 "com/example/usher/usher/cli/Tally" "dense" "[J" (.ref a15)) (FB7 : Fld Z hJ7 a4 "com/example/usher/usher/cli/Tally" "pairs" "J" (.long p7)) (FC7 : Fld Z hJ7 a4 "com/example/usher/usher/cli/Tally" "failed" "J" (.long q7)) (AJ7 : Ar Z hJ7 a15 .long 4096 f7) (ej7 : f7 0 = .long d7) (hp7 : p7.toInt = if nn.toInt < 7 then nn.toInt else 7), WP X n0 QL hJ7 3 4108 107 #[.val (.int a), .val (.int b), .val (.int cc), .val (.int nn), .val (.int v19_4), .val ((.ref a4)), .unset, .unset, .unset, .unset, .unset, .unset, .unset, .unset] [] := by
                  intro hJ7 p7 d7 q7 f7 ZJ7 EJ7 FA7 FB7 FC7 AJ7 ej7 hp7
                  refine wp_run ok hK (B := [(107, .iload_n 2, false), (108, .iconst 1, false), (109, .iand, false)]) (by decide +kernel) (pc' := 110) (L' := #[.val (.int a), .val (.int b), .val (.int cc), .val (.int nn), .val (.int v19_4), .val ((.ref a4)), .unset, .unset, .unset, .unset, .unset, .unset, .unset, .unset]) (S' := [.int (cc &&& (1 : Int32))]) rfl trivial ?_
                  by_cases hc110 : (cc &&& (1 : Int32)) = (0 : Int32)
                  · refine wp_run ok hK (B := [(110, .ifCond .eq 8, true)]) (by decide +kernel) (pc' := 118) (L' := #[.val (.int a), .val (.int b), .val (.int cc), .val (.int nn), .val (.int v19_4), .val ((.ref a4)), .unset, .unset, .unset, .unset, .unset, .unset, .unset, .unset]) (S' := []) rfl ⟨(XT.i0_eq_t hc110), trivial⟩ ?_
                    refine wp_run ok hK (B := [(118, .aload 5, false), (120, .iload 4, false)]) (by decide +kernel) (pc' := 122) (L' := #[.val (.int a), .val (.int b), .val (.int cc), .val (.int nn), .val (.int v19_4), .val ((.ref a4)), .unset, .unset, .unset, .unset, .unset, .unset, .unset, .unset]) (S' := [.int v19_4, (.ref a4)]) rfl trivial ?_
                    refine wp_virtual ok (wd hw 31 rfl) (wd hw 32 rfl) (wd hw 34 rfl) (wd hw 33 rfl) (wd hw 3 rfl) (wd hw 35 rfl) (by decide) (argsL := [.int v19_4]) (rest := []) EJ7 (c_pps _ Z a0 hw a4 v19_4 p7 hJ7 n0 ZJ7 EJ7 FB7 g10 (own_law_1 a b cc nn h_nn v19_4 h_v19_4 p1 hp1 p2 hp2 p3 hp3 p4 hp4 p5 hp5 p6 hp6 p7 hp7 hc110)) (ps := [.int]) (by decide +kernel) (by rfl) (by rfl) (by rfl) (by decide +kernel) (by decide) (Nat.le_of_ble_eq_true rfl) (by decide) (by decide) ?_
                    intro r37 h38 q39
                    obtain ⟨e40, rfl⟩ := q39
                    obtain ⟨z122, h_z122⟩ : ∃ z : Int64, z = ((((2 : Int64) * p7) + (v19_4.toInt64)) / ((2 : Int64) * (v19_4.toInt64))) := ⟨_, rfl⟩
                    have e40' := e40.trans (show _ = some (Value.long z122) by rw [h_z122])
                    subst e40'
                    show WP X n0 QL hJ7 3 4108 125 #[.val (.int a), .val (.int b), .val (.int cc), .val (.int nn), .val (.int v19_4), .val ((.ref a4)), .unset, .unset, .unset, .unset, .unset, .unset, .unset, .unset] [.long z122]
                    refine wp_run ok hK (B := [(125, .lstore 6, false), (127, .iload_n 3, false), (128, .i2l, false), (129, .iload 4, false), (131, .i2l, false), (132, .ldiv, false), (133, .lstore 8, false)]) (by decide +kernel) (pc' := 135) (L' := #[.val (.int a), .val (.int b), .val (.int cc), .val (.int nn), .val (.int v19_4), .val ((.ref a4)), .val (.long z122), .second, .val (.long ((nn.toInt64) / (v19_4.toInt64))), .second, .unset, .unset, .unset, .unset]) (S' := []) rfl ⟨(own_law_2 a b cc nn h_nn v19_4 h_v19_4 p1 hp1 p2 hp2 p3 hp3 p4 hp4 p5 hp5 p6 hp6 p7 hp7 hc110 z122 h_z122), trivial⟩ ?_
                    refine wp_run ok hK (B := [(135, .iload_n 3, false), (136, .i2l, false), (137, .iload 4, false), (139, .i2l, false), (140, .lrem, false), (141, .lstore 10, false), (143, .lload 8, false), (145, .lstore 12, false)]) (by decide +kernel) (pc' := 147) (L' := #[.val (.int a), .val (.int b), .val (.int cc), .val (.int nn), .val (.int v19_4), .val ((.ref a4)), .val (.long z122), .second, .val (.long ((nn.toInt64) / (v19_4.toInt64))), .second, .val (.long ((nn.toInt64) % (v19_4.toInt64))), .second, .val (.long ((nn.toInt64) / (v19_4.toInt64))), .second]) (S' := []) rfl ⟨(own_law_3 a b cc nn h_nn v19_4 h_v19_4 p1 hp1 p2 hp2 p3 hp3 p4 hp4 p5 hp5 p6 hp6 p7 hp7 hc110 z122 h_z122), trivial⟩ ?_
                    refine wp_run ok hK (B := [(147, .ldc2_w 22, false), (150, .lload 10, false), (152, .lmul, false), (153, .iload 4, false), (155, .i2l, false), (156, .lcmp, false)]) (by decide +kernel) (pc' := 157) (L' := #[.val (.int a), .val (.int b), .val (.int cc), .val (.int nn), .val (.int v19_4), .val ((.ref a4)), .val (.long z122), .second, .val (.long ((nn.toInt64) / (v19_4.toInt64))), .second, .val (.long ((nn.toInt64) % (v19_4.toInt64))), .second, .val (.long ((nn.toInt64) / (v19_4.toInt64))), .second]) (S' := [.int (cmpL ((2 : Int64) * ((nn.toInt64) % (v19_4.toInt64))) (v19_4.toInt64))]) rfl trivial ?_
                    have J166_42 : ∀ (v166_12 : Int64) (h_v166_12 : v166_12 = (if ((2 : Int64) * ((nn.toInt64) % (v19_4.toInt64))) < (v19_4.toInt64) then ((nn.toInt64) / (v19_4.toInt64)) else (((nn.toInt64) / (v19_4.toInt64)) + (1 : Int64)))), WP X n0 QL hJ7 3 4108 166 #[.val (.int a), .val (.int b), .val (.int cc), .val (.int nn), .val (.int v19_4), .val ((.ref a4)), .val (.long z122), .second, .val (.long ((nn.toInt64) / (v19_4.toInt64))), .second, .val (.long ((nn.toInt64) % (v19_4.toInt64))), .second, .val (.long v166_12), .second] [] := by
                      intro v166_12 h_v166_12
                      refine wp_run ok hK (B := [(166, .lload 6, false), (168, .lload 12, false), (170, .lcmp, false)]) (by decide +kernel) (pc' := 171) (L' := #[.val (.int a), .val (.int b), .val (.int cc), .val (.int nn), .val (.int v19_4), .val ((.ref a4)), .val (.long z122), .second, .val (.long ((nn.toInt64) / (v19_4.toInt64))), .second, .val (.long ((nn.toInt64) % (v19_4.toInt64))), .second, .val (.long v166_12), .second]) (S' := [.int (cmpL z122 v166_12)]) rfl trivial ?_
                      have J179_44 : ∀ (s179_0 : Int32) (h_s179_0 : s179_0 = (if z122 = v166_12 then (1 : Int32) else (0 : Int32))), WP X n0 QL hJ7 3 4108 179 #[.val (.int a), .val (.int b), .val (.int cc), .val (.int nn), .val (.int v19_4), .val ((.ref a4)), .val (.long z122), .second, .val (.long ((nn.toInt64) / (v19_4.toInt64))), .second, .val (.long ((nn.toInt64) % (v19_4.toInt64))), .second, .val (.long v166_12), .second] [.int s179_0] := by
                        intro s179_0 h_s179_0
                        refine wp_retZ ok (t := .boolean) (by simp) (by decide +kernel) (by decide) (by decide) ?_
                        exact congrArg (fun z => some (Value.int z)) (own_law_4 a b cc nn h_nn v19_4 h_v19_4 p1 hp1 p2 hp2 p3 hp3 p4 hp4 p5 hp5 p6 hp6 p7 hp7 hc110 z122 h_z122 v166_12 h_v166_12 s179_0 h_s179_0)
                      by_cases c43 : z122 = v166_12
                      · refine wp_run ok hK (B := [(171, .ifCond .ne 7, false), (174, .iconst 1, false), (175, .goto 4, false)]) (by decide +kernel) (pc' := 179) (L' := #[.val (.int a), .val (.int b), .val (.int cc), .val (.int nn), .val (.int v19_4), .val ((.ref a4)), .val (.long z122), .second, .val (.long ((nn.toInt64) / (v19_4.toInt64))), .second, .val (.long ((nn.toInt64) % (v19_4.toInt64))), .second, .val (.long v166_12), .second]) (S' := [.int (1 : Int32)]) rfl ⟨(XT.ll_ne_f c43), trivial⟩ ?_
                        exact J179_44 _ (by rw [if_pos c43])
                      · refine wp_run ok hK (B := [(171, .ifCond .ne 7, true), (178, .iconst 0, false)]) (by decide +kernel) (pc' := 179) (L' := #[.val (.int a), .val (.int b), .val (.int cc), .val (.int nn), .val (.int v19_4), .val ((.ref a4)), .val (.long z122), .second, .val (.long ((nn.toInt64) / (v19_4.toInt64))), .second, .val (.long ((nn.toInt64) % (v19_4.toInt64))), .second, .val (.long v166_12), .second]) (S' := [.int (0 : Int32)]) rfl ⟨(XT.ll_ne_t c43), trivial⟩ ?_
                        exact J179_44 _ (by rw [if_neg c43])
                    by_cases c41 : ((2 : Int64) * ((nn.toInt64) % (v19_4.toInt64))) < (v19_4.toInt64)
                    · refine wp_run ok hK (B := [(157, .ifCond .lt 9, true)]) (by decide +kernel) (pc' := 166) (L' := #[.val (.int a), .val (.int b), .val (.int cc), .val (.int nn), .val (.int v19_4), .val ((.ref a4)), .val (.long z122), .second, .val (.long ((nn.toInt64) / (v19_4.toInt64))), .second, .val (.long ((nn.toInt64) % (v19_4.toInt64))), .second, .val (.long ((nn.toInt64) / (v19_4.toInt64))), .second]) (S' := []) rfl ⟨(XT.ll_lt_t c41), trivial⟩ ?_
                      exact J166_42 _ (by rw [if_pos c41])
                    · refine wp_run ok hK (B := [(157, .ifCond .lt 9, false), (160, .lload 8, false), (162, .lconst 1, false), (163, .ladd, false), (164, .lstore 12, false)]) (by decide +kernel) (pc' := 166) (L' := #[.val (.int a), .val (.int b), .val (.int cc), .val (.int nn), .val (.int v19_4), .val ((.ref a4)), .val (.long z122), .second, .val (.long ((nn.toInt64) / (v19_4.toInt64))), .second, .val (.long ((nn.toInt64) % (v19_4.toInt64))), .second, .val (.long (((nn.toInt64) / (v19_4.toInt64)) + (1 : Int64))), .second]) (S' := []) rfl ⟨(XT.ll_lt_f c41), trivial⟩ ?_
                      exact J166_42 _ (by rw [if_neg c41])
                  · refine wp_run ok hK (B := [(110, .ifCond .eq 8, false)]) (by decide +kernel) (pc' := 113) (L' := #[.val (.int a), .val (.int b), .val (.int cc), .val (.int nn), .val (.int v19_4), .val ((.ref a4)), .unset, .unset, .unset, .unset, .unset, .unset, .unset, .unset]) (S' := []) rfl ⟨(XT.i0_eq_f hc110), trivial⟩ ?_
                    refine wp_run ok hK (B := [(113, .aload 5, false)]) (by decide +kernel) (pc' := 115) (L' := #[.val (.int a), .val (.int b), .val (.int cc), .val (.int nn), .val (.int v19_4), .val ((.ref a4)), .unset, .unset, .unset, .unset, .unset, .unset, .unset, .unset]) (S' := [(.ref a4)]) rfl trivial ?_
                    refine wp_virtual ok (wd hw 47 rfl) (wd hw 48 rfl) (wd hw 50 rfl) (wd hw 49 rfl) (wd hw 3 rfl) (wd hw 51 rfl) (by decide) (argsL := []) (rest := []) EJ7 (c_fail _ Z a0 hw a4 q7 p7 hJ7 n0 ZJ7 EJ7 FC7 FB7 g10) (ps := []) (by decide +kernel) (by rfl) (by rfl) (by rfl) (by decide +kernel) (by decide) (Nat.le_of_ble_eq_true rfl) (by decide) (by decide) ?_
                    intro r45 h46 q47
                    obtain ⟨rfl, K48, F49, F50⟩ := q47
                    have E51 := EJ7.keep K48
                    obtain ⟨failed115, h_failed115⟩ : ∃ z : Int64, z = (q7 + (1 : Int64)) := ⟨_, rfl⟩
                    rw [← h_failed115] at F49
                    have A52 := AJ7.keep K48 (by simp only [List.mem_cons, List.not_mem_nil, or_false, not_or]; exact (Ne.symm N29))
                    have Z53 : n0 ≤ h46.size := Nat.le_trans ZJ7 K48.1
                    show WP X n0 QL h46 3 4108 118 #[.val (.int a), .val (.int b), .val (.int cc), .val (.int nn), .val (.int v19_4), .val ((.ref a4)), .unset, .unset, .unset, .unset, .unset, .unset, .unset, .unset] []
                    refine wp_run ok hK (B := [(118, .aload 5, false), (120, .iload 4, false)]) (by decide +kernel) (pc' := 122) (L' := #[.val (.int a), .val (.int b), .val (.int cc), .val (.int nn), .val (.int v19_4), .val ((.ref a4)), .unset, .unset, .unset, .unset, .unset, .unset, .unset, .unset]) (S' := [.int v19_4, (.ref a4)]) rfl trivial ?_
                    refine wp_virtual ok (wd hw 31 rfl) (wd hw 32 rfl) (wd hw 34 rfl) (wd hw 33 rfl) (wd hw 3 rfl) (wd hw 35 rfl) (by decide) (argsL := [.int v19_4]) (rest := []) E51 (c_pps _ Z a0 hw a4 v19_4 p7 h46 n0 Z53 E51 F50 g10 (own_law_5 a b cc nn h_nn v19_4 h_v19_4 p1 hp1 p2 hp2 p3 hp3 p4 hp4 p5 hp5 p6 hp6 p7 hp7 hc110 failed115 h_failed115)) (ps := [.int]) (by decide +kernel) (by rfl) (by rfl) (by rfl) (by decide +kernel) (by decide) (Nat.le_of_ble_eq_true rfl) (by decide) (by decide) ?_
                    intro r54 h55 q56
                    obtain ⟨e57, rfl⟩ := q56
                    obtain ⟨z122, h_z122⟩ : ∃ z : Int64, z = ((((2 : Int64) * p7) + (v19_4.toInt64)) / ((2 : Int64) * (v19_4.toInt64))) := ⟨_, rfl⟩
                    have e57' := e57.trans (show _ = some (Value.long z122) by rw [h_z122])
                    subst e57'
                    show WP X n0 QL h46 3 4108 125 #[.val (.int a), .val (.int b), .val (.int cc), .val (.int nn), .val (.int v19_4), .val ((.ref a4)), .unset, .unset, .unset, .unset, .unset, .unset, .unset, .unset] [.long z122]
                    refine wp_run ok hK (B := [(125, .lstore 6, false), (127, .iload_n 3, false), (128, .i2l, false), (129, .iload 4, false), (131, .i2l, false), (132, .ldiv, false), (133, .lstore 8, false)]) (by decide +kernel) (pc' := 135) (L' := #[.val (.int a), .val (.int b), .val (.int cc), .val (.int nn), .val (.int v19_4), .val ((.ref a4)), .val (.long z122), .second, .val (.long ((nn.toInt64) / (v19_4.toInt64))), .second, .unset, .unset, .unset, .unset]) (S' := []) rfl ⟨(own_law_6 a b cc nn h_nn v19_4 h_v19_4 p1 hp1 p2 hp2 p3 hp3 p4 hp4 p5 hp5 p6 hp6 p7 hp7 hc110 failed115 h_failed115 z122 h_z122), trivial⟩ ?_
                    refine wp_run ok hK (B := [(135, .iload_n 3, false), (136, .i2l, false), (137, .iload 4, false), (139, .i2l, false), (140, .lrem, false), (141, .lstore 10, false), (143, .lload 8, false), (145, .lstore 12, false)]) (by decide +kernel) (pc' := 147) (L' := #[.val (.int a), .val (.int b), .val (.int cc), .val (.int nn), .val (.int v19_4), .val ((.ref a4)), .val (.long z122), .second, .val (.long ((nn.toInt64) / (v19_4.toInt64))), .second, .val (.long ((nn.toInt64) % (v19_4.toInt64))), .second, .val (.long ((nn.toInt64) / (v19_4.toInt64))), .second]) (S' := []) rfl ⟨(own_law_7 a b cc nn h_nn v19_4 h_v19_4 p1 hp1 p2 hp2 p3 hp3 p4 hp4 p5 hp5 p6 hp6 p7 hp7 hc110 failed115 h_failed115 z122 h_z122), trivial⟩ ?_
                    refine wp_run ok hK (B := [(147, .ldc2_w 22, false), (150, .lload 10, false), (152, .lmul, false), (153, .iload 4, false), (155, .i2l, false), (156, .lcmp, false)]) (by decide +kernel) (pc' := 157) (L' := #[.val (.int a), .val (.int b), .val (.int cc), .val (.int nn), .val (.int v19_4), .val ((.ref a4)), .val (.long z122), .second, .val (.long ((nn.toInt64) / (v19_4.toInt64))), .second, .val (.long ((nn.toInt64) % (v19_4.toInt64))), .second, .val (.long ((nn.toInt64) / (v19_4.toInt64))), .second]) (S' := [.int (cmpL ((2 : Int64) * ((nn.toInt64) % (v19_4.toInt64))) (v19_4.toInt64))]) rfl trivial ?_
                    have J166_59 : ∀ (v166_12 : Int64) (h_v166_12 : v166_12 = (if ((2 : Int64) * ((nn.toInt64) % (v19_4.toInt64))) < (v19_4.toInt64) then ((nn.toInt64) / (v19_4.toInt64)) else (((nn.toInt64) / (v19_4.toInt64)) + (1 : Int64)))), WP X n0 QL h46 3 4108 166 #[.val (.int a), .val (.int b), .val (.int cc), .val (.int nn), .val (.int v19_4), .val ((.ref a4)), .val (.long z122), .second, .val (.long ((nn.toInt64) / (v19_4.toInt64))), .second, .val (.long ((nn.toInt64) % (v19_4.toInt64))), .second, .val (.long v166_12), .second] [] := by
                      intro v166_12 h_v166_12
                      refine wp_run ok hK (B := [(166, .lload 6, false), (168, .lload 12, false), (170, .lcmp, false)]) (by decide +kernel) (pc' := 171) (L' := #[.val (.int a), .val (.int b), .val (.int cc), .val (.int nn), .val (.int v19_4), .val ((.ref a4)), .val (.long z122), .second, .val (.long ((nn.toInt64) / (v19_4.toInt64))), .second, .val (.long ((nn.toInt64) % (v19_4.toInt64))), .second, .val (.long v166_12), .second]) (S' := [.int (cmpL z122 v166_12)]) rfl trivial ?_
                      have J179_61 : ∀ (s179_0 : Int32) (h_s179_0 : s179_0 = (if z122 = v166_12 then (1 : Int32) else (0 : Int32))), WP X n0 QL h46 3 4108 179 #[.val (.int a), .val (.int b), .val (.int cc), .val (.int nn), .val (.int v19_4), .val ((.ref a4)), .val (.long z122), .second, .val (.long ((nn.toInt64) / (v19_4.toInt64))), .second, .val (.long ((nn.toInt64) % (v19_4.toInt64))), .second, .val (.long v166_12), .second] [.int s179_0] := by
                        intro s179_0 h_s179_0
                        refine wp_retZ ok (t := .boolean) (by simp) (by decide +kernel) (by decide) (by decide) ?_
                        exact congrArg (fun z => some (Value.int z)) (own_law_8 a b cc nn h_nn v19_4 h_v19_4 p1 hp1 p2 hp2 p3 hp3 p4 hp4 p5 hp5 p6 hp6 p7 hp7 hc110 failed115 h_failed115 z122 h_z122 v166_12 h_v166_12 s179_0 h_s179_0)
                      by_cases c60 : z122 = v166_12
                      · refine wp_run ok hK (B := [(171, .ifCond .ne 7, false), (174, .iconst 1, false), (175, .goto 4, false)]) (by decide +kernel) (pc' := 179) (L' := #[.val (.int a), .val (.int b), .val (.int cc), .val (.int nn), .val (.int v19_4), .val ((.ref a4)), .val (.long z122), .second, .val (.long ((nn.toInt64) / (v19_4.toInt64))), .second, .val (.long ((nn.toInt64) % (v19_4.toInt64))), .second, .val (.long v166_12), .second]) (S' := [.int (1 : Int32)]) rfl ⟨(XT.ll_ne_f c60), trivial⟩ ?_
                        exact J179_61 _ (by rw [if_pos c60])
                      · refine wp_run ok hK (B := [(171, .ifCond .ne 7, true), (178, .iconst 0, false)]) (by decide +kernel) (pc' := 179) (L' := #[.val (.int a), .val (.int b), .val (.int cc), .val (.int nn), .val (.int v19_4), .val ((.ref a4)), .val (.long z122), .second, .val (.long ((nn.toInt64) / (v19_4.toInt64))), .second, .val (.long ((nn.toInt64) % (v19_4.toInt64))), .second, .val (.long v166_12), .second]) (S' := [.int (0 : Int32)]) rfl ⟨(XT.ll_ne_t c60), trivial⟩ ?_
                        exact J179_61 _ (by rw [if_neg c60])
                    by_cases c58 : ((2 : Int64) * ((nn.toInt64) % (v19_4.toInt64))) < (v19_4.toInt64)
                    · refine wp_run ok hK (B := [(157, .ifCond .lt 9, true)]) (by decide +kernel) (pc' := 166) (L' := #[.val (.int a), .val (.int b), .val (.int cc), .val (.int nn), .val (.int v19_4), .val ((.ref a4)), .val (.long z122), .second, .val (.long ((nn.toInt64) / (v19_4.toInt64))), .second, .val (.long ((nn.toInt64) % (v19_4.toInt64))), .second, .val (.long ((nn.toInt64) / (v19_4.toInt64))), .second]) (S' := []) rfl ⟨(XT.ll_lt_t c58), trivial⟩ ?_
                      exact J166_59 _ (by rw [if_pos c58])
                    · refine wp_run ok hK (B := [(157, .ifCond .lt 9, false), (160, .lload 8, false), (162, .lconst 1, false), (163, .ladd, false), (164, .lstore 12, false)]) (by decide +kernel) (pc' := 166) (L' := #[.val (.int a), .val (.int b), .val (.int cc), .val (.int nn), .val (.int v19_4), .val ((.ref a4)), .val (.long z122), .second, .val (.long ((nn.toInt64) / (v19_4.toInt64))), .second, .val (.long ((nn.toInt64) % (v19_4.toInt64))), .second, .val (.long (((nn.toInt64) / (v19_4.toInt64)) + (1 : Int64))), .second]) (S' := []) rfl ⟨(XT.ll_lt_f c58), trivial⟩ ?_
                      exact J166_59 _ (by rw [if_neg c58])
                by_cases hc98 : nn < (7 : Int32)
                · refine wp_run ok hK (B := [(98, .if_icmp .lt 9, true)]) (by decide +kernel) (pc' := 107) (L' := #[.val (.int a), .val (.int b), .val (.int cc), .val (.int nn), .val (.int v19_4), .val ((.ref a4)), .unset, .unset, .unset, .unset, .unset, .unset, .unset, .unset]) (S' := []) rfl ⟨(XT.ii_lt_t hc98), trivial⟩ ?_
                  exact JH107_36 hJ6 p6 d6 q6 f6 ZJ6 EJ6 FA6 FB6 FC6 AJ6 ej6 (own_law_9 a b cc nn h_nn v19_4 h_v19_4 p1 hp1 p2 hp2 p3 hp3 p4 hp4 p5 hp5 p6 hp6 hc98)
                · refine wp_run ok hK (B := [(98, .if_icmp .lt 9, false)]) (by decide +kernel) (pc' := 101) (L' := #[.val (.int a), .val (.int b), .val (.int cc), .val (.int nn), .val (.int v19_4), .val ((.ref a4)), .unset, .unset, .unset, .unset, .unset, .unset, .unset, .unset]) (S' := []) rfl ⟨(XT.ii_lt_f hc98), trivial⟩ ?_
                  refine wp_run ok hK (B := [(101, .aload 5, false), (103, .lconst 0, false)]) (by decide +kernel) (pc' := 104) (L' := #[.val (.int a), .val (.int b), .val (.int cc), .val (.int nn), .val (.int v19_4), .val ((.ref a4)), .unset, .unset, .unset, .unset, .unset, .unset, .unset, .unset]) (S' := [.long (0 : Int64), (.ref a4)]) rfl trivial ?_
                  refine wp_virtual ok (wd hw 40 rfl) (wd hw 41 rfl) (wd hw 43 rfl) (wd hw 42 rfl) (wd hw 3 rfl) (wd hw 44 rfl) (by decide) (argsL := [.long (0 : Int64)]) (rest := []) EJ6 (c_pair _ Z a0 hw a4 a15 p6 q6 f6 d6 hJ6 n0 ZJ6 EJ6 FA6 FB6 FC6 g10 AJ6 g26 ej6) (ps := [.long]) (by decide +kernel) (by rfl) (by rfl) (by rfl) (by decide +kernel) (by decide) (Nat.le_of_ble_eq_true rfl) (by decide) (by decide) ?_
                  intro r67 h68 q69
                  obtain ⟨rfl, K62, F63, F64, F65, A66⟩ := q69
                  have E70 := EJ6.keep K62
                  have Z71 : n0 ≤ h68.size := Nat.le_trans ZJ6 K62.1
                  obtain ⟨pairs104, h_pairs104⟩ : ∃ z : Int64, z = (p6 + (1 : Int64)) := ⟨_, rfl⟩
                  rw [← h_pairs104] at F64
                  have e72 : ((fun j => if j = 0 then .long (d6 + (1 : Int64)) else f6 j) : Nat → Value) 0 = .long (d6 + (1 : Int64)) := rfl
                  show WP X n0 QL h68 3 4108 107 #[.val (.int a), .val (.int b), .val (.int cc), .val (.int nn), .val (.int v19_4), .val ((.ref a4)), .unset, .unset, .unset, .unset, .unset, .unset, .unset, .unset] []
                  exact JH107_36 h68 pairs104 (d6 + (1 : Int64)) q6 (fun j => if j = 0 then .long (d6 + (1 : Int64)) else f6 j) Z71 E70 F63 F64 F65 A66 e72 (own_law_10 a b cc nn h_nn v19_4 h_v19_4 p1 hp1 p2 hp2 p3 hp3 p4 hp4 p5 hp5 p6 hp6 hc98 pairs104 h_pairs104)
              by_cases hc86 : nn < (6 : Int32)
              · refine wp_run ok hK (B := [(86, .if_icmp .lt 9, true)]) (by decide +kernel) (pc' := 95) (L' := #[.val (.int a), .val (.int b), .val (.int cc), .val (.int nn), .val (.int v19_4), .val ((.ref a4)), .unset, .unset, .unset, .unset, .unset, .unset, .unset, .unset]) (S' := []) rfl ⟨(XT.ii_lt_t hc86), trivial⟩ ?_
                exact JH95_35 hJ5 p5 d5 q5 f5 ZJ5 EJ5 FA5 FB5 FC5 AJ5 ej5 (own_law_11 a b cc nn h_nn v19_4 h_v19_4 p1 hp1 p2 hp2 p3 hp3 p4 hp4 p5 hp5 hc86)
              · refine wp_run ok hK (B := [(86, .if_icmp .lt 9, false)]) (by decide +kernel) (pc' := 89) (L' := #[.val (.int a), .val (.int b), .val (.int cc), .val (.int nn), .val (.int v19_4), .val ((.ref a4)), .unset, .unset, .unset, .unset, .unset, .unset, .unset, .unset]) (S' := []) rfl ⟨(XT.ii_lt_f hc86), trivial⟩ ?_
                refine wp_run ok hK (B := [(89, .aload 5, false), (91, .lconst 0, false)]) (by decide +kernel) (pc' := 92) (L' := #[.val (.int a), .val (.int b), .val (.int cc), .val (.int nn), .val (.int v19_4), .val ((.ref a4)), .unset, .unset, .unset, .unset, .unset, .unset, .unset, .unset]) (S' := [.long (0 : Int64), (.ref a4)]) rfl trivial ?_
                refine wp_virtual ok (wd hw 40 rfl) (wd hw 41 rfl) (wd hw 43 rfl) (wd hw 42 rfl) (wd hw 3 rfl) (wd hw 44 rfl) (by decide) (argsL := [.long (0 : Int64)]) (rest := []) EJ5 (c_pair _ Z a0 hw a4 a15 p5 q5 f5 d5 hJ5 n0 ZJ5 EJ5 FA5 FB5 FC5 g10 AJ5 g26 ej5) (ps := [.long]) (by decide +kernel) (by rfl) (by rfl) (by rfl) (by decide +kernel) (by decide) (Nat.le_of_ble_eq_true rfl) (by decide) (by decide) ?_
                intro r78 h79 q80
                obtain ⟨rfl, K73, F74, F75, F76, A77⟩ := q80
                have E81 := EJ5.keep K73
                have Z82 : n0 ≤ h79.size := Nat.le_trans ZJ5 K73.1
                obtain ⟨pairs92, h_pairs92⟩ : ∃ z : Int64, z = (p5 + (1 : Int64)) := ⟨_, rfl⟩
                rw [← h_pairs92] at F75
                have e83 : ((fun j => if j = 0 then .long (d5 + (1 : Int64)) else f5 j) : Nat → Value) 0 = .long (d5 + (1 : Int64)) := rfl
                show WP X n0 QL h79 3 4108 95 #[.val (.int a), .val (.int b), .val (.int cc), .val (.int nn), .val (.int v19_4), .val ((.ref a4)), .unset, .unset, .unset, .unset, .unset, .unset, .unset, .unset] []
                exact JH95_35 h79 pairs92 (d5 + (1 : Int64)) q5 (fun j => if j = 0 then .long (d5 + (1 : Int64)) else f5 j) Z82 E81 F74 F75 F76 A77 e83 (own_law_12 a b cc nn h_nn v19_4 h_v19_4 p1 hp1 p2 hp2 p3 hp3 p4 hp4 p5 hp5 hc86 pairs92 h_pairs92)
            by_cases hc74 : nn < (5 : Int32)
            · refine wp_run ok hK (B := [(74, .if_icmp .lt 9, true)]) (by decide +kernel) (pc' := 83) (L' := #[.val (.int a), .val (.int b), .val (.int cc), .val (.int nn), .val (.int v19_4), .val ((.ref a4)), .unset, .unset, .unset, .unset, .unset, .unset, .unset, .unset]) (S' := []) rfl ⟨(XT.ii_lt_t hc74), trivial⟩ ?_
              exact JH83_34 hJ4 p4 d4 q4 f4 ZJ4 EJ4 FA4 FB4 FC4 AJ4 ej4 (own_law_13 a b cc nn h_nn v19_4 h_v19_4 p1 hp1 p2 hp2 p3 hp3 p4 hp4 hc74)
            · refine wp_run ok hK (B := [(74, .if_icmp .lt 9, false)]) (by decide +kernel) (pc' := 77) (L' := #[.val (.int a), .val (.int b), .val (.int cc), .val (.int nn), .val (.int v19_4), .val ((.ref a4)), .unset, .unset, .unset, .unset, .unset, .unset, .unset, .unset]) (S' := []) rfl ⟨(XT.ii_lt_f hc74), trivial⟩ ?_
              refine wp_run ok hK (B := [(77, .aload 5, false), (79, .lconst 0, false)]) (by decide +kernel) (pc' := 80) (L' := #[.val (.int a), .val (.int b), .val (.int cc), .val (.int nn), .val (.int v19_4), .val ((.ref a4)), .unset, .unset, .unset, .unset, .unset, .unset, .unset, .unset]) (S' := [.long (0 : Int64), (.ref a4)]) rfl trivial ?_
              refine wp_virtual ok (wd hw 40 rfl) (wd hw 41 rfl) (wd hw 43 rfl) (wd hw 42 rfl) (wd hw 3 rfl) (wd hw 44 rfl) (by decide) (argsL := [.long (0 : Int64)]) (rest := []) EJ4 (c_pair _ Z a0 hw a4 a15 p4 q4 f4 d4 hJ4 n0 ZJ4 EJ4 FA4 FB4 FC4 g10 AJ4 g26 ej4) (ps := [.long]) (by decide +kernel) (by rfl) (by rfl) (by rfl) (by decide +kernel) (by decide) (Nat.le_of_ble_eq_true rfl) (by decide) (by decide) ?_
              intro r89 h90 q91
              obtain ⟨rfl, K84, F85, F86, F87, A88⟩ := q91
              have E92 := EJ4.keep K84
              have Z93 : n0 ≤ h90.size := Nat.le_trans ZJ4 K84.1
              obtain ⟨pairs80, h_pairs80⟩ : ∃ z : Int64, z = (p4 + (1 : Int64)) := ⟨_, rfl⟩
              rw [← h_pairs80] at F86
              have e94 : ((fun j => if j = 0 then .long (d4 + (1 : Int64)) else f4 j) : Nat → Value) 0 = .long (d4 + (1 : Int64)) := rfl
              show WP X n0 QL h90 3 4108 83 #[.val (.int a), .val (.int b), .val (.int cc), .val (.int nn), .val (.int v19_4), .val ((.ref a4)), .unset, .unset, .unset, .unset, .unset, .unset, .unset, .unset] []
              exact JH83_34 h90 pairs80 (d4 + (1 : Int64)) q4 (fun j => if j = 0 then .long (d4 + (1 : Int64)) else f4 j) Z93 E92 F85 F86 F87 A88 e94 (own_law_14 a b cc nn h_nn v19_4 h_v19_4 p1 hp1 p2 hp2 p3 hp3 p4 hp4 hc74 pairs80 h_pairs80)
          by_cases hc63 : nn < (4 : Int32)
          · refine wp_run ok hK (B := [(63, .if_icmp .lt 9, true)]) (by decide +kernel) (pc' := 72) (L' := #[.val (.int a), .val (.int b), .val (.int cc), .val (.int nn), .val (.int v19_4), .val ((.ref a4)), .unset, .unset, .unset, .unset, .unset, .unset, .unset, .unset]) (S' := []) rfl ⟨(XT.ii_lt_t hc63), trivial⟩ ?_
            exact JH72_33 hJ3 p3 d3 q3 f3 ZJ3 EJ3 FA3 FB3 FC3 AJ3 ej3 (own_law_15 a b cc nn h_nn v19_4 h_v19_4 p1 hp1 p2 hp2 p3 hp3 hc63)
          · refine wp_run ok hK (B := [(63, .if_icmp .lt 9, false)]) (by decide +kernel) (pc' := 66) (L' := #[.val (.int a), .val (.int b), .val (.int cc), .val (.int nn), .val (.int v19_4), .val ((.ref a4)), .unset, .unset, .unset, .unset, .unset, .unset, .unset, .unset]) (S' := []) rfl ⟨(XT.ii_lt_f hc63), trivial⟩ ?_
            refine wp_run ok hK (B := [(66, .aload 5, false), (68, .lconst 0, false)]) (by decide +kernel) (pc' := 69) (L' := #[.val (.int a), .val (.int b), .val (.int cc), .val (.int nn), .val (.int v19_4), .val ((.ref a4)), .unset, .unset, .unset, .unset, .unset, .unset, .unset, .unset]) (S' := [.long (0 : Int64), (.ref a4)]) rfl trivial ?_
            refine wp_virtual ok (wd hw 40 rfl) (wd hw 41 rfl) (wd hw 43 rfl) (wd hw 42 rfl) (wd hw 3 rfl) (wd hw 44 rfl) (by decide) (argsL := [.long (0 : Int64)]) (rest := []) EJ3 (c_pair _ Z a0 hw a4 a15 p3 q3 f3 d3 hJ3 n0 ZJ3 EJ3 FA3 FB3 FC3 g10 AJ3 g26 ej3) (ps := [.long]) (by decide +kernel) (by rfl) (by rfl) (by rfl) (by decide +kernel) (by decide) (Nat.le_of_ble_eq_true rfl) (by decide) (by decide) ?_
            intro r100 h101 q102
            obtain ⟨rfl, K95, F96, F97, F98, A99⟩ := q102
            have E103 := EJ3.keep K95
            have Z104 : n0 ≤ h101.size := Nat.le_trans ZJ3 K95.1
            obtain ⟨pairs69, h_pairs69⟩ : ∃ z : Int64, z = (p3 + (1 : Int64)) := ⟨_, rfl⟩
            rw [← h_pairs69] at F97
            have e105 : ((fun j => if j = 0 then .long (d3 + (1 : Int64)) else f3 j) : Nat → Value) 0 = .long (d3 + (1 : Int64)) := rfl
            show WP X n0 QL h101 3 4108 72 #[.val (.int a), .val (.int b), .val (.int cc), .val (.int nn), .val (.int v19_4), .val ((.ref a4)), .unset, .unset, .unset, .unset, .unset, .unset, .unset, .unset] []
            exact JH72_33 h101 pairs69 (d3 + (1 : Int64)) q3 (fun j => if j = 0 then .long (d3 + (1 : Int64)) else f3 j) Z104 E103 F96 F97 F98 A99 e105 (own_law_16 a b cc nn h_nn v19_4 h_v19_4 p1 hp1 p2 hp2 p3 hp3 hc63 pairs69 h_pairs69)
        by_cases hc52 : nn < (3 : Int32)
        · refine wp_run ok hK (B := [(52, .if_icmp .lt 9, true)]) (by decide +kernel) (pc' := 61) (L' := #[.val (.int a), .val (.int b), .val (.int cc), .val (.int nn), .val (.int v19_4), .val ((.ref a4)), .unset, .unset, .unset, .unset, .unset, .unset, .unset, .unset]) (S' := []) rfl ⟨(XT.ii_lt_t hc52), trivial⟩ ?_
          exact JH61_32 hJ2 p2 d2 q2 f2 ZJ2 EJ2 FA2 FB2 FC2 AJ2 ej2 (own_law_17 a b cc nn h_nn v19_4 h_v19_4 p1 hp1 p2 hp2 hc52)
        · refine wp_run ok hK (B := [(52, .if_icmp .lt 9, false)]) (by decide +kernel) (pc' := 55) (L' := #[.val (.int a), .val (.int b), .val (.int cc), .val (.int nn), .val (.int v19_4), .val ((.ref a4)), .unset, .unset, .unset, .unset, .unset, .unset, .unset, .unset]) (S' := []) rfl ⟨(XT.ii_lt_f hc52), trivial⟩ ?_
          refine wp_run ok hK (B := [(55, .aload 5, false), (57, .lconst 0, false)]) (by decide +kernel) (pc' := 58) (L' := #[.val (.int a), .val (.int b), .val (.int cc), .val (.int nn), .val (.int v19_4), .val ((.ref a4)), .unset, .unset, .unset, .unset, .unset, .unset, .unset, .unset]) (S' := [.long (0 : Int64), (.ref a4)]) rfl trivial ?_
          refine wp_virtual ok (wd hw 40 rfl) (wd hw 41 rfl) (wd hw 43 rfl) (wd hw 42 rfl) (wd hw 3 rfl) (wd hw 44 rfl) (by decide) (argsL := [.long (0 : Int64)]) (rest := []) EJ2 (c_pair _ Z a0 hw a4 a15 p2 q2 f2 d2 hJ2 n0 ZJ2 EJ2 FA2 FB2 FC2 g10 AJ2 g26 ej2) (ps := [.long]) (by decide +kernel) (by rfl) (by rfl) (by rfl) (by decide +kernel) (by decide) (Nat.le_of_ble_eq_true rfl) (by decide) (by decide) ?_
          intro r111 h112 q113
          obtain ⟨rfl, K106, F107, F108, F109, A110⟩ := q113
          have E114 := EJ2.keep K106
          have Z115 : n0 ≤ h112.size := Nat.le_trans ZJ2 K106.1
          obtain ⟨pairs58, h_pairs58⟩ : ∃ z : Int64, z = (p2 + (1 : Int64)) := ⟨_, rfl⟩
          rw [← h_pairs58] at F108
          have e116 : ((fun j => if j = 0 then .long (d2 + (1 : Int64)) else f2 j) : Nat → Value) 0 = .long (d2 + (1 : Int64)) := rfl
          show WP X n0 QL h112 3 4108 61 #[.val (.int a), .val (.int b), .val (.int cc), .val (.int nn), .val (.int v19_4), .val ((.ref a4)), .unset, .unset, .unset, .unset, .unset, .unset, .unset, .unset] []
          exact JH61_32 h112 pairs58 (d2 + (1 : Int64)) q2 (fun j => if j = 0 then .long (d2 + (1 : Int64)) else f2 j) Z115 E114 F107 F108 F109 A110 e116 (own_law_18 a b cc nn h_nn v19_4 h_v19_4 p1 hp1 p2 hp2 hc52 pairs58 h_pairs58)
      by_cases hc41 : nn < (2 : Int32)
      · refine wp_run ok hK (B := [(41, .if_icmp .lt 9, true)]) (by decide +kernel) (pc' := 50) (L' := #[.val (.int a), .val (.int b), .val (.int cc), .val (.int nn), .val (.int v19_4), .val ((.ref a4)), .unset, .unset, .unset, .unset, .unset, .unset, .unset, .unset]) (S' := []) rfl ⟨(XT.ii_lt_t hc41), trivial⟩ ?_
        exact JH50_31 hJ1 p1 d1 q1 f1 ZJ1 EJ1 FA1 FB1 FC1 AJ1 ej1 (own_law_19 a b cc nn h_nn v19_4 h_v19_4 p1 hp1 hc41)
      · refine wp_run ok hK (B := [(41, .if_icmp .lt 9, false)]) (by decide +kernel) (pc' := 44) (L' := #[.val (.int a), .val (.int b), .val (.int cc), .val (.int nn), .val (.int v19_4), .val ((.ref a4)), .unset, .unset, .unset, .unset, .unset, .unset, .unset, .unset]) (S' := []) rfl ⟨(XT.ii_lt_f hc41), trivial⟩ ?_
        refine wp_run ok hK (B := [(44, .aload 5, false), (46, .lconst 0, false)]) (by decide +kernel) (pc' := 47) (L' := #[.val (.int a), .val (.int b), .val (.int cc), .val (.int nn), .val (.int v19_4), .val ((.ref a4)), .unset, .unset, .unset, .unset, .unset, .unset, .unset, .unset]) (S' := [.long (0 : Int64), (.ref a4)]) rfl trivial ?_
        refine wp_virtual ok (wd hw 40 rfl) (wd hw 41 rfl) (wd hw 43 rfl) (wd hw 42 rfl) (wd hw 3 rfl) (wd hw 44 rfl) (by decide) (argsL := [.long (0 : Int64)]) (rest := []) EJ1 (c_pair _ Z a0 hw a4 a15 p1 q1 f1 d1 hJ1 n0 ZJ1 EJ1 FA1 FB1 FC1 g10 AJ1 g26 ej1) (ps := [.long]) (by decide +kernel) (by rfl) (by rfl) (by rfl) (by decide +kernel) (by decide) (Nat.le_of_ble_eq_true rfl) (by decide) (by decide) ?_
        intro r122 h123 q124
        obtain ⟨rfl, K117, F118, F119, F120, A121⟩ := q124
        have E125 := EJ1.keep K117
        have Z126 : n0 ≤ h123.size := Nat.le_trans ZJ1 K117.1
        obtain ⟨pairs47, h_pairs47⟩ : ∃ z : Int64, z = (p1 + (1 : Int64)) := ⟨_, rfl⟩
        rw [← h_pairs47] at F119
        have e127 : ((fun j => if j = 0 then .long (d1 + (1 : Int64)) else f1 j) : Nat → Value) 0 = .long (d1 + (1 : Int64)) := rfl
        show WP X n0 QL h123 3 4108 50 #[.val (.int a), .val (.int b), .val (.int cc), .val (.int nn), .val (.int v19_4), .val ((.ref a4)), .unset, .unset, .unset, .unset, .unset, .unset, .unset, .unset] []
        exact JH50_31 h123 pairs47 (d1 + (1 : Int64)) q1 (fun j => if j = 0 then .long (d1 + (1 : Int64)) else f1 j) Z126 E125 F118 F119 F120 A121 e127 (own_law_20 a b cc nn h_nn v19_4 h_v19_4 p1 hp1 hc41 pairs47 h_pairs47)
    by_cases hc30 : nn < (1 : Int32)
    · refine wp_run ok hK (B := [(30, .if_icmp .lt 9, true)]) (by decide +kernel) (pc' := 39) (L' := #[.val (.int a), .val (.int b), .val (.int cc), .val (.int nn), .val (.int v19_4), .val ((.ref a4)), .unset, .unset, .unset, .unset, .unset, .unset, .unset, .unset]) (S' := []) rfl ⟨(XT.ii_lt_t hc30), trivial⟩ ?_
      exact JH39_30 h23 (0 : Int64) (0 : Int64) (0 : Int64) (fun _ => .long (0 : Int64)) Z27 E25 F18 F19 F20 A21 e28 (own_law_21 a b cc nn h_nn v19_4 h_v19_4 hc30)
    · refine wp_run ok hK (B := [(30, .if_icmp .lt 9, false)]) (by decide +kernel) (pc' := 33) (L' := #[.val (.int a), .val (.int b), .val (.int cc), .val (.int nn), .val (.int v19_4), .val ((.ref a4)), .unset, .unset, .unset, .unset, .unset, .unset, .unset, .unset]) (S' := []) rfl ⟨(XT.ii_lt_f hc30), trivial⟩ ?_
      refine wp_run ok hK (B := [(33, .aload 5, false), (35, .lconst 0, false)]) (by decide +kernel) (pc' := 36) (L' := #[.val (.int a), .val (.int b), .val (.int cc), .val (.int nn), .val (.int v19_4), .val ((.ref a4)), .unset, .unset, .unset, .unset, .unset, .unset, .unset, .unset]) (S' := [.long (0 : Int64), (.ref a4)]) rfl trivial ?_
      refine wp_virtual ok (wd hw 40 rfl) (wd hw 41 rfl) (wd hw 43 rfl) (wd hw 42 rfl) (wd hw 3 rfl) (wd hw 44 rfl) (by decide) (argsL := [.long (0 : Int64)]) (rest := []) E25 (c_pair _ Z a0 hw a4 a15 (0 : Int64) (0 : Int64) (fun _ => .long (0 : Int64)) (0 : Int64) h23 n0 Z27 E25 F18 F19 F20 g10 A21 g26 e28) (ps := [.long]) (by decide +kernel) (by rfl) (by rfl) (by rfl) (by decide +kernel) (by decide) (Nat.le_of_ble_eq_true rfl) (by decide) (by decide) ?_
      intro r133 h134 q135
      obtain ⟨rfl, K128, F129, F130, F131, A132⟩ := q135
      have E136 := E25.keep K128
      have Z137 : n0 ≤ h134.size := Nat.le_trans Z27 K128.1
      obtain ⟨pairs36, h_pairs36⟩ : ∃ z : Int64, z = ((0 : Int64) + (1 : Int64)) := ⟨_, rfl⟩
      rw [← h_pairs36] at F130
      have e138 : ((fun j => if j = 0 then .long ((0 : Int64) + (1 : Int64)) else (fun _ => .long (0 : Int64)) j) : Nat → Value) 0 = .long ((0 : Int64) + (1 : Int64)) := rfl
      show WP X n0 QL h134 3 4108 39 #[.val (.int a), .val (.int b), .val (.int cc), .val (.int nn), .val (.int v19_4), .val ((.ref a4)), .unset, .unset, .unset, .unset, .unset, .unset, .unset, .unset] []
      exact JH39_30 h134 pairs36 ((0 : Int64) + (1 : Int64)) (0 : Int64) (fun j => if j = 0 then .long ((0 : Int64) + (1 : Int64)) else (fun _ => .long (0 : Int64)) j) Z137 E136 F129 F130 F131 A132 e138 (own_law_22 a b cc nn h_nn v19_4 h_v19_4 hc30 pairs36 h_pairs36)
  by_cases c1 : (b &&& (2147483647 : Int32)) = (0 : Int32)
  · refine wp_run ok hK (B := [(13, .ifCond .ne 6, false), (16, .iconst 1, false), (17, .istore 4, false)]) (by decide +kernel) (pc' := 19) (L' := #[.val (.int a), .val (.int b), .val (.int cc), .val (.int nn), .val (.int (1 : Int32)), .unset, .unset, .unset, .unset, .unset, .unset, .unset, .unset, .unset]) (S' := []) rfl ⟨(XT.i0_ne_f c1), trivial⟩ ?_
    exact J19_2 _ (by rw [if_pos c1])
  · refine wp_run ok hK (B := [(13, .ifCond .ne 6, true)]) (by decide +kernel) (pc' := 19) (L' := #[.val (.int a), .val (.int b), .val (.int cc), .val (.int nn), .val (.int (b &&& (2147483647 : Int32))), .unset, .unset, .unset, .unset, .unset, .unset, .unset, .unset, .unset]) (S' := []) rfl ⟨(XT.i0_ne_t c1), trivial⟩ ?_
    exact J19_2 _ (by rw [if_neg c1])
set_option maxRecDepth 65536 in
set_option maxHeartbeats 40000000 in
theorem comes_1 {Post : Tables → Env → Array Value → State → Outcome → State → Prop} (hpost : ∀ tb e args s v u, (limb_1_1.after args s (.returned v) u = true ∧ limb_1_2.after args s (.returned v) u = true ∧ True) → FrameEnd s (.returned v) u (Jvm.fieldLocs frame_1_writes args s ++ Jvm.arrayLocs frame_1_arrays args s ++ Jvm.staticLocs frame_1_statics s) 16 8320 → Post tb e args s (.returned v) u) :
    ArmFor flags0 classFile x code maxLocals ret World_1 tables_1 room_1 Calls_1 rest_1 Pre_1 Post := by
  intro l hfl _ _ p e ha hc hk s m args below hf hA hF happ hP
  obtain ⟨hcalls, hrest, hpre⟩ := hP
  obtain ⟨-, -, -, hnamed, -, -, -, hat⟩ := (Spec.applies_iff hf).mp happ
  obtain ⟨hg, hn⟩ := and_e (Cond.before_iff.mp (show (Jvm.Cond.and given_1 narrow_1).before args s = true from hpre))
  obtain ⟨h1, g0⟩ := and_e hg
  obtain ⟨f0, g1⟩ := and_e g0
  obtain ⟨f1, g2⟩ := and_e g1
  obtain ⟨w0, w1, w2, rfl⟩ : ∃ w0 w1 w2 : Value, args = #[w0, w1, w2] := by
    have hs : args.size = 3 := by simpa [Cond.value, given_1] using h1
    obtain ⟨L⟩ := args
    match L, hs with
    | [w0, w1, w2], _ => exact ⟨w0, w1, w2, rfl⟩
  have hw := fun d (hd : d ∈ tables_1) => atoms_spec (ws := Jvm.Cond.code x code maxLocals ret :: tables_1) hat d (List.mem_cons_of_mem _ hd)
  obtain ⟨i0, e0⟩ := is_v f0
  obtain rfl : w0 = (.int i0) := Option.some.inj e0
  obtain ⟨i1, e1⟩ := is_v f1
  obtain rfl : w1 = (.int i1) := Option.some.inj e1
  obtain ⟨i2, e2⟩ := is_v g2
  obtain rfl : w2 = (.int i2) := Option.some.inj e2
  obtain ⟨n, o, h1, h2, h3, _, L, rfl, ⟨rfl, N⟩, hq⟩ := c_law l s _ hw i0 i1 i2 s.heap s.heap.size (Nat.le_refl _) p e ha hc hk s m _ below hf ((Spec.applies_iff_loose hf).mp happ).1 ⟨rfl, State.Warmed39.refl s, rfl⟩ trivial
  refine ⟨n, _, h1, h2, h3, hpost _ _ _ _ _ _ ⟨Cond.after_iff.mpr rfl, Cond.after_iff.mpr (eq_i res_at (Term.int_eval (1)) rfl), trivial⟩ ⟨hq.1, hq.2.1, (hq.2.2.sift fun y hy => Or.inr (N y hy)).mono (by decide) (by decide)⟩⟩
theorem main_1_1 : Claimed_1_1 := comes_1 fun _ _ _ _ _ _ h hF => ⟨h.1, hF⟩
theorem main_1_2 : Claimed_1_2 := comes_1 fun _ _ _ _ _ _ h hF => ⟨h.2.1, hF⟩
end Jvm.Pilot.@@N@@
namespace Jvm.Pilot.@@N@@
open Jvm Jvm.ClassFile Sem Op Lib Jvm.Free Jvm.Stand Jvm.Pilot.@@N@@.Jvm.D
/-! MADE BY PROGRAM (witnessworld.py) out of the Statement's table words and the real class files: 14 classes; the members and pool entries that the words name. The judged class is class 1, her method 1. -/
namespace start1
open Jvm.ClassFile
def u (s : String) : CpInfo := .utf8 (stringToUtf16 s)
/-- a pool by its gaps: so many unusable entries, then the entry; so many at the end -/
def gap : Nat → List CpInfo → List CpInfo
  | 0, r => r
  | n + 1, r => .unusable :: gap n r
def poolList (es : List (Nat × CpInfo)) (last : Nat) : List CpInfo := es.foldr (fun e r => gap e.1 (e.2 :: r)) (gap last [])
def pool (es : List (Nat × CpInfo)) (last : Nat) : Array CpInfo := ⟨poolList es last⟩
def fileOf (pool : Array CpInfo) (this : Nat) (attrs : Array Attribute := #[]) (ms : Array MethodInfo := #[]) (fl : Nat := 33) (sup : Nat := 0) (ifs : Array Nat := #[]) (fds : Array FieldInfo := #[]) : ClassFile where
  minorVersion := 0
  majorVersion := 65
  constantPool := pool
  accessFlags := fl
  thisClass := this
  superClass := sup
  interfaces := ifs
  fields := fds
  methods := ms
  attributes := attrs
def plain (name : String) (sup : Option ClassId) : Class where
  name := name
  kind := .ordinary
  loader := none
  accessFlags := 33
  super := sup
  interfaces := #[]
  cf := none
  fields := #[]
  methods := #[]
  instanceTypes := #[]
  staticTypes := #[]
  resolved := #[]
  callSites := []
  init := .initialized
  statics := none
  mirror := none

def pool0 : Array CpInfo := pool [(5, u "<init>"), (0, u "()V"), (1, .class_ 10), (1, u "java/lang/Object")] 113

def k0c0 : Code := { maxStack := 0, maxLocals := 1, code := object_method_1_code, exceptionTable := #[], attributes := #[] }
def k0m0 : Method := { name := "<init>", desc := "()V", sig := { parameters := [], returnType := none }, accessFlags := 1, code := some k0c0 }
/-- java/lang/Object -/
def k0 : Class := { plain "java/lang/Object" none with
  accessFlags := 33
  interfaces := #[]
  cf := some (fileOf pool0 8 #[] #[{ accessFlags := 1, nameIndex := 5, descriptorIndex := 6, attributes := #[] }] 33 0 #[] #[])
  fields := #[]
  methods := #[k0m0]
  instanceTypes := #[]
  staticTypes := #[]
  resolved := Array.replicate 124 none
  statics := none }

def pool1 : Array CpInfo := pool [(2, .class_ 4), (0, .nameAndType 5 6), (0, u "java/lang/Object"), (0, u "<init>"), (0, u "()V"), (0, .integer 2147483647), (0, .class_ 9), (0, u "com/example/usher/usher/cli/Tally"), (0, .methodref 8 3), (0, .methodref 8 12), (0, .nameAndType 13 14), (0, u "pair"), (0, u "(J)V"), (0, .methodref 8 16), (0, .nameAndType 17 6), (0, u "failure"), (0, .methodref 8 19), (0, .nameAndType 20 21), (0, u "pairsPerSecond"), (0, u "(I)J"), (0, .long 2), (1, .class_ 25), (0, u "com/example/usher/usher/cli/TallyPairsPerSecondPinLaw"), (2, u "law"), (0, u "(III)Z")] 3

def k1m0 : Method := { name := "<init>", desc := "()V", sig := { parameters := [], returnType := none }, accessFlags := 1, code := none }
def k1c1 : Code := { maxStack := 4, maxLocals := 14, code := code, exceptionTable := #[], attributes := #[] }
def k1m1 : Method := { name := "law", desc := "(III)Z", sig := { parameters := [.int, .int, .int], returnType := some .boolean }, accessFlags := 9, code := some k1c1 }
/-- com/example/usher/usher/cli/TallyPairsPerSecondPinLaw -/
def k1 : Class := { plain "com/example/usher/usher/cli/TallyPairsPerSecondPinLaw" (some 0) with
  accessFlags := 49
  interfaces := #[]
  cf := some (fileOf pool1 24 #[] #[{ accessFlags := 1, nameIndex := 5, descriptorIndex := 6, attributes := #[] }, { accessFlags := 9, nameIndex := 28, descriptorIndex := 29, attributes := #[] }] 49 2 #[] #[])
  fields := #[]
  methods := #[k1m0, k1m1]
  instanceTypes := #[]
  staticTypes := #[]
  resolved := Array.replicate 33 none
  statics := none }

def pool2 : Array CpInfo := pool [(1, .methodref 2 3), (0, .class_ 4), (0, .nameAndType 5 6), (0, u "java/lang/Object"), (0, u "<init>"), (0, u "()V"), (0, .class_ 8), (0, u "com/example/usher/usher/cli/Tally"), (0, .fieldref 7 10), (0, .nameAndType 11 12), (0, u "dense"), (0, u "[J"), (0, .class_ 14), (0, u "java/util/HashMap"), (0, .methodref 13 3), (0, .fieldref 7 17), (0, .nameAndType 18 19), (0, u "sparse"), (0, u "Ljava/util/Map;"), (0, .long 1000), (1, .long 4096), (17, .fieldref 7 41), (0, .nameAndType 42 43), (0, u "pairs"), (0, u "J"), (0, .fieldref 7 45), (0, .nameAndType 46 43), (0, u "failed"), (28, .long 2), (39, u "DENSE_MICROS"), (0, u "I"), (2, u "NANOS_PER_MICRO"), (4, u "pair"), (0, u "(J)V"), (1, u "failure"), (2, u "pairsPerSecond"), (0, u "(I)J")] 35

def k2c0 : Code := { maxStack := 3, maxLocals := 1, code := prog_4_method_1_code, exceptionTable := #[], attributes := #[] }
def k2m0 : Method := { name := "<init>", desc := "()V", sig := { parameters := [], returnType := none }, accessFlags := 0, code := some k2c0 }
def k2c1 : Code := { maxStack := 6, maxLocals := 5, code := prog_4_method_2_code, exceptionTable := #[], attributes := #[] }
def k2m1 : Method := { name := "pair", desc := "(J)V", sig := { parameters := [.long], returnType := none }, accessFlags := 0, code := some k2c1 }
def k2c2 : Code := { maxStack := 5, maxLocals := 1, code := prog_4_method_3_code, exceptionTable := #[], attributes := #[] }
def k2m2 : Method := { name := "failure", desc := "()V", sig := { parameters := [], returnType := none }, accessFlags := 0, code := some k2c2 }
def k2c3 : Code := { maxStack := 6, maxLocals := 2, code := prog_4_method_7_code, exceptionTable := #[], attributes := #[] }
def k2m3 : Method := { name := "pairsPerSecond", desc := "(I)J", sig := { parameters := [.int], returnType := some .long }, accessFlags := 0, code := some k2c3 }
/-- com/example/usher/usher/cli/Tally -/
def k2 : Class := { plain "com/example/usher/usher/cli/Tally" (some 0) with
  accessFlags := 48
  interfaces := #[]
  cf := some (fileOf pool2 7 #[] #[{ accessFlags := 0, nameIndex := 5, descriptorIndex := 6, attributes := #[] }, { accessFlags := 0, nameIndex := 124, descriptorIndex := 125, attributes := #[] }, { accessFlags := 0, nameIndex := 127, descriptorIndex := 6, attributes := #[] }, { accessFlags := 0, nameIndex := 130, descriptorIndex := 131, attributes := #[] }] 48 2 #[] #[{ accessFlags := 26, nameIndex := 115, descriptorIndex := 116, attributes := #[] }, { accessFlags := 26, nameIndex := 119, descriptorIndex := 43, attributes := #[] }, { accessFlags := 18, nameIndex := 11, descriptorIndex := 12, attributes := #[] }, { accessFlags := 18, nameIndex := 18, descriptorIndex := 19, attributes := #[] }, { accessFlags := 2, nameIndex := 42, descriptorIndex := 43, attributes := #[] }, { accessFlags := 2, nameIndex := 46, descriptorIndex := 43, attributes := #[] }])
  fields := #[{ name := "DENSE_MICROS", type := .int, accessFlags := 26, slot := 0, constantValue := 0 }, { name := "NANOS_PER_MICRO", type := .long, accessFlags := 26, slot := 1, constantValue := 0 }, { name := "dense", type := (.array .long), accessFlags := 18, slot := 0, constantValue := 0 }, { name := "sparse", type := (.object "java/util/Map"), accessFlags := 18, slot := 1, constantValue := 0 }, { name := "pairs", type := .long, accessFlags := 2, slot := 2, constantValue := 0 }, { name := "failed", type := .long, accessFlags := 2, slot := 3, constantValue := 0 }]
  methods := #[k2m0, k2m1, k2m2, k2m3]
  instanceTypes := #[(.array .long), (.object "java/util/Map"), .long, .long]
  staticTypes := #[.int, .long]
  resolved := Array.replicate 167 none
  statics := none }

def pool3 : Array CpInfo := pool [(2, .class_ 4), (1, u "java/util/Map"), (31, .class_ 37), (0, u "java/util/Map$Entry"), (55, .class_ 94), (0, u "java/lang/Object")] 168

/-- java/util/Map -/
def k3 : Class := { plain "java/util/Map" (some 0) with
  accessFlags := 1537
  interfaces := #[]
  cf := some (fileOf pool3 2 #[.nestMembers #[36]] #[] 1537 93 #[] #[])
  fields := #[]
  methods := #[]
  instanceTypes := #[]
  staticTypes := #[]
  resolved := Array.replicate 263 none
  statics := none }

def pool4 : Array CpInfo := pool [(1, .methodref 2 3), (0, .class_ 4), (0, .nameAndType 5 6), (0, u "java/lang/Object"), (0, u "<init>"), (0, u "()V"), (1, .class_ 10), (1, u "java/util/AbstractMap"), (42, .class_ 54), (0, u "java/util/Map"), (9, u "keySet"), (0, u "Ljava/util/Set;"), (0, .class_ 67), (0, u "java/util/AbstractMap$1"), (5, u "values"), (0, u "Ljava/util/Collection;"), (0, .class_ 76), (0, u "java/util/AbstractMap$2"), (104, .class_ 182), (0, u "java/util/AbstractMap$ViewCollection"), (0, .class_ 184), (0, u "java/util/AbstractMap$SimpleImmutableEntry"), (0, .class_ 186), (0, u "java/util/AbstractMap$SimpleEntry"), (0, .class_ 188), (0, u "java/util/AbstractMap$2$1"), (0, .class_ 190), (0, u "java/util/AbstractMap$1$1")] 5

def k4c0 : Code := { maxStack := 1, maxLocals := 1, code := jdk_71_method_1_code, exceptionTable := #[], attributes := #[] }
def k4m0 : Method := { name := "<init>", desc := "()V", sig := { parameters := [], returnType := none }, accessFlags := 4, code := some k4c0 }
/-- java/util/AbstractMap -/
def k4 : Class := { plain "java/util/AbstractMap" (some 0) with
  accessFlags := 1057
  interfaces := #[3]
  cf := some (fileOf pool4 8 #[.nestMembers #[181, 183, 185, 75, 187, 66, 189]] #[{ accessFlags := 4, nameIndex := 5, descriptorIndex := 6, attributes := #[] }] 1057 2 #[53] #[{ accessFlags := 128, nameIndex := 64, descriptorIndex := 65, attributes := #[] }, { accessFlags := 128, nameIndex := 73, descriptorIndex := 74, attributes := #[] }])
  fields := #[{ name := "keySet", type := (.object "java/util/Set"), accessFlags := 128, slot := 0, constantValue := 0 }, { name := "values", type := (.object "java/util/Collection"), accessFlags := 128, slot := 1, constantValue := 0 }]
  methods := #[k4m0]
  instanceTypes := #[(.object "java/util/Set"), (.object "java/util/Collection")]
  staticTypes := #[]
  resolved := Array.replicate 196 none
  statics := none }

def pool5 : Array CpInfo := pool [(1, .class_ 2), (0, u "java/lang/Cloneable"), (0, .class_ 4), (0, u "java/lang/Object")] 2

/-- java/lang/Cloneable -/
def k5 : Class := { plain "java/lang/Cloneable" (some 0) with
  accessFlags := 1537
  interfaces := #[]
  cf := some (fileOf pool5 1 #[] #[] 1537 3 #[] #[])
  fields := #[]
  methods := #[]
  instanceTypes := #[]
  staticTypes := #[]
  resolved := Array.replicate 7 none
  statics := none }

def pool6 : Array CpInfo := pool [(1, .class_ 2), (0, u "java/io/Serializable"), (0, .class_ 4), (0, u "java/lang/Object")] 2

/-- java/io/Serializable -/
def k6 : Class := { plain "java/io/Serializable" (some 0) with
  accessFlags := 1537
  interfaces := #[]
  cf := some (fileOf pool6 1 #[] #[] 1537 3 #[] #[])
  fields := #[]
  methods := #[]
  instanceTypes := #[]
  staticTypes := #[]
  resolved := Array.replicate 7 none
  statics := none }

def pool7 : Array CpInfo := pool [(40, .class_ 41), (0, u "java/util/HashMap"), (1, .methodref 44 45), (0, .class_ 46), (0, .nameAndType 47 48), (0, u "java/util/AbstractMap"), (0, u "<init>"), (0, u "()V"), (32, .fieldref 40 82), (0, .nameAndType 83 84), (0, u "loadFactor"), (0, u "F"), (5, u "threshold"), (0, u "I"), (0, .float 1061158912), (8, .class_ 103), (1, u "java/util/Map"), (0, u "size"), (2, u "table"), (0, u "[Ljava/util/HashMap$Node;"), (14, u "entrySet"), (39, .class_ 165), (1, u "java/util/HashMap$Node"), (14, .class_ 181), (0, u "java/util/HashMap$TreeNode"), (22, u "modCount"), (37, u "Ljava/util/Set;"), (0, .class_ 244), (0, u "java/util/HashMap$KeySet"), (18, .class_ 264), (0, u "java/util/HashMap$Values"), (3, .class_ 269), (0, u "java/util/HashMap$EntrySet"), (76, .class_ 348), (1, u "java/util/HashMap$UnsafeHolder"), (43, .class_ 393), (0, u "java/lang/Cloneable"), (0, .class_ 395), (0, u "java/io/Serializable"), (0, u "serialVersionUID"), (0, u "J"), (3, u "DEFAULT_INITIAL_CAPACITY"), (1, u "MAXIMUM_CAPACITY"), (0, u "DEFAULT_LOAD_FACTOR"), (0, u "TREEIFY_THRESHOLD"), (1, u "UNTREEIFY_THRESHOLD"), (1, u "MIN_TREEIFY_CAPACITY"), (186, .class_ 597), (0, u "java/util/HashMap$EntrySpliterator"), (0, .class_ 599), (0, u "java/util/HashMap$ValueSpliterator"), (0, .class_ 601), (0, u "java/util/HashMap$KeySpliterator"), (0, .class_ 603), (0, u "java/util/HashMap$HashMapSpliterator"), (0, .class_ 605), (0, u "java/util/HashMap$EntryIterator"), (0, .class_ 607), (0, u "java/util/HashMap$ValueIterator"), (0, .class_ 609), (0, u "java/util/HashMap$KeyIterator"), (0, .class_ 611), (0, u "java/util/HashMap$HashIterator")] 17

def k7c0 : Code := { maxStack := 2, maxLocals := 1, code := jdk_69_method_7_code, exceptionTable := #[], attributes := #[] }
def k7m0 : Method := { name := "<init>", desc := "()V", sig := { parameters := [], returnType := none }, accessFlags := 1, code := some k7c0 }
/-- java/util/HashMap -/
def k7 : Class := { plain "java/util/HashMap" (some 4) with
  accessFlags := 33
  interfaces := #[3, 5, 6]
  cf := some (fileOf pool7 40 #[.nestMembers #[180, 596, 598, 600, 602, 604, 606, 608, 610, 346, 268, 263, 243, 163]] #[{ accessFlags := 1, nameIndex := 47, descriptorIndex := 48, attributes := #[] }] 33 44 #[101, 392, 394] #[{ accessFlags := 26, nameIndex := 396, descriptorIndex := 397, attributes := #[] }, { accessFlags := 24, nameIndex := 401, descriptorIndex := 91, attributes := #[] }, { accessFlags := 24, nameIndex := 403, descriptorIndex := 91, attributes := #[] }, { accessFlags := 24, nameIndex := 404, descriptorIndex := 84, attributes := #[] }, { accessFlags := 24, nameIndex := 405, descriptorIndex := 91, attributes := #[] }, { accessFlags := 24, nameIndex := 407, descriptorIndex := 91, attributes := #[] }, { accessFlags := 24, nameIndex := 409, descriptorIndex := 91, attributes := #[] }, { accessFlags := 128, nameIndex := 107, descriptorIndex := 108, attributes := #[] }, { accessFlags := 128, nameIndex := 123, descriptorIndex := 242, attributes := #[] }, { accessFlags := 128, nameIndex := 104, descriptorIndex := 91, attributes := #[] }, { accessFlags := 128, nameIndex := 204, descriptorIndex := 91, attributes := #[] }, { accessFlags := 0, nameIndex := 90, descriptorIndex := 91, attributes := #[] }, { accessFlags := 16, nameIndex := 83, descriptorIndex := 84, attributes := #[] }])
  fields := #[{ name := "serialVersionUID", type := .long, accessFlags := 26, slot := 0, constantValue := 0 }, { name := "DEFAULT_INITIAL_CAPACITY", type := .int, accessFlags := 24, slot := 1, constantValue := 0 }, { name := "MAXIMUM_CAPACITY", type := .int, accessFlags := 24, slot := 2, constantValue := 0 }, { name := "DEFAULT_LOAD_FACTOR", type := .float, accessFlags := 24, slot := 3, constantValue := 0 }, { name := "TREEIFY_THRESHOLD", type := .int, accessFlags := 24, slot := 4, constantValue := 0 }, { name := "UNTREEIFY_THRESHOLD", type := .int, accessFlags := 24, slot := 5, constantValue := 0 }, { name := "MIN_TREEIFY_CAPACITY", type := .int, accessFlags := 24, slot := 6, constantValue := 0 }, { name := "table", type := (.array (.object "java/util/HashMap$Node")), accessFlags := 128, slot := 2, constantValue := 0 }, { name := "entrySet", type := (.object "java/util/Set"), accessFlags := 128, slot := 3, constantValue := 0 }, { name := "size", type := .int, accessFlags := 128, slot := 4, constantValue := 0 }, { name := "modCount", type := .int, accessFlags := 128, slot := 5, constantValue := 0 }, { name := "threshold", type := .int, accessFlags := 0, slot := 6, constantValue := 0 }, { name := "loadFactor", type := .float, accessFlags := 16, slot := 7, constantValue := 0 }]
  methods := #[k7m0]
  instanceTypes := #[(.object "java/util/Set"), (.object "java/util/Collection"), (.array (.object "java/util/HashMap$Node")), (.object "java/util/Set"), .int, .int, .int, .float]
  staticTypes := #[.long, .int, .int, .float, .int, .int, .int]
  resolved := Array.replicate 629 none
  statics := none }

/-- the primitive byte -/
def k8 : Class := { plain "byte" none with kind := .primitive 'B', accessFlags := 0x411 }
/-- [B -/
def k9 : Class := { plain "[B" (some 0) with kind := .array 8 .byte, interfaces := #[5, 6], accessFlags := 1041 }

/-- the primitive int -/
def k10 : Class := { plain "int" none with kind := .primitive 'I', accessFlags := 0x411 }
/-- [I -/
def k11 : Class := { plain "[I" (some 0) with kind := .array 10 .int, interfaces := #[5, 6], accessFlags := 1041 }

/-- the primitive long -/
def k12 : Class := { plain "long" none with kind := .primitive 'J', accessFlags := 0x411 }
/-- [J -/
def k13 : Class := { plain "[J" (some 0) with kind := .array 12 .long, interfaces := #[5, 6], accessFlags := 1041 }

def heap : Heap := #[]
def classes : Array Class := #[k0, k1, k2, k3, k4, k5, k6, k7, k8, k9, k10, k11, k12, k13]
def interned : List (Array UInt16 × Addr) := []
def slotsUsed : Nat := 0
def theMethod : MethodId := ⟨1, 1⟩
def args0 : Array Value := #[.int 5, .int 3, .int 5]
def aboutOver (below : List Frame) : State where
  vm := { classes := classes, interned := interned.toArray }
  heap := heap
  slotsUsed := slotsUsed
  threads := #[{ frames := .invoking theMethod args0 :: below }]
def below0 : List Frame := [.native { method := ⟨0, 0⟩, args := #[] }]
def about1 : State := aboutOver below0
def p0 : Program := .bare "" "" ""
def e0 : Env := launch0.env 0 0 0
theorem w_frames : about1.frames = Frame.invoking theMethod args0 :: below0 := rfl
set_option maxRecDepth 65536 in
theorem w_args : argsFit about1.vm theMethod args0 = true := by decide +kernel
set_option maxRecDepth 65536 in
theorem w_heap : heapFits about1 = true := by decide +kernel
set_option maxRecDepth 65536 in
theorem w_runnable : about1.curStatus? = some .runnable := by decide +kernel
set_option maxRecDepth 65536 in
theorem w_alone : about1.alone = true := by decide +kernel
set_option maxRecDepth 65536 in
theorem w_named : about1.methodNamed? x = some theMethod := by decide +kernel
set_option maxRecDepth 65536 in
theorem w_hears : about1.hears theMethod below0 = true := by decide +kernel
set_option maxRecDepth 65536 in
theorem w_ripe : about1.ripe theMethod args0 below0 = true := by decide +kernel
theorem w_running : about1.status = .running := rfl
set_option maxRecDepth 65536 in
theorem w_room : about1.hasRoom e0.platform room_1 = true :=
  launch0.hasRoom_least _ room_1 (by decide +kernel) (by decide +kernel) (by decide +kernel) (by decide +kernel) (by decide +kernel) (by decide +kernel)
theorem allAtoms_all (ts : List Jvm.Cond) (a : Array Jvm.Value) (st : Jvm.State) : (allAtoms ts).before a st = ts.all (fun c => c.before a st) := by
  induction ts with
  | nil => rfl
  | cons c t ih =>
    show (Jvm.Cond.and c (allAtoms t)).before a st = _
    rw [Jvm.Cond.before_and, ih, List.all_cons]
def words1 : List Jvm.Cond := Jvm.Cond.code x code maxLocals ret :: tables_1
/-- a 'code' word, met by the world's own term for the bytes: nothing is compared byte by byte -/
theorem code_word {y : MethodName} {bytes : ByteArray} {mx : Nat} {rt : Option FieldType} {a : Array Value} {s : State} {m : MethodId} {meth : Method} {c : Code} (h1 : s.methodNamed? y = some m) (h2 : s.vm.method? m = some meth) (h3 : meth.code = some c) (h4 : c.code = bytes)
    (h5 : (c.maxLocals == mx && c.exceptionTable.isEmpty && decide (c.maxStack ≤ mostOperands) && decide (meth.sig.returnType = rt) && !meth.locks && decide (parseMethodDescriptor y.desc = some meth.sig)) = true) : (Jvm.Cond.code y bytes mx rt).before a s = true := by
  simp only [Bool.and_eq_true, beq_iff_eq, Bool.not_eq_true', decide_eq_true_eq] at h5
  obtain ⟨⟨⟨⟨⟨g1, g2⟩, g3⟩, g4⟩, g5⟩, g6⟩ := h5
  simp [Cond.before, Cond.holds, Cond.value, h1, h2, h3, h4, g1, g2, g3, g4, g5, g6]
def isCode : Jvm.Cond → Bool
  | .code _ _ _ _ => true
  | _ => false
theorem all_split {L : List Jvm.Cond} {P : Jvm.Cond → Bool} (h1 : L.all (fun c => isCode c || P c) = true) (h2 : ∀ c ∈ L.filter isCode, P c = true) : L.all P = true := by
  refine List.all_eq_true.mpr fun c hc => ?_
  have h := List.all_eq_true.mp h1 c hc
  rcases Bool.eq_false_or_eq_true (isCode c) with hi | hi
  · exact h2 c (List.mem_filter.mpr ⟨hc, hi⟩)
  · simpa [hi] using h
set_option maxRecDepth 65536 in
theorem w_c0 : (Jvm.Cond.code x code maxLocals ret).before args0 about1 = true := code_word (m := ⟨1, 1⟩) (meth := k1m1) (c := k1c1) (by decide +kernel) rfl rfl rfl (by decide +kernel)
set_option maxRecDepth 65536 in
theorem w_c1 : (Jvm.Cond.code ({ cls := "com/example/usher/usher/cli/Tally", name := "<init>", desc := "()V" } : Jvm.MethodName) prog_4_method_1_code (1 : Nat) (Option.none : Option Jvm.ClassFile.FieldType)).before args0 about1 = true := code_word (m := ⟨2, 0⟩) (meth := k2m0) (c := k2c0) (by decide +kernel) rfl rfl rfl (by decide +kernel)
set_option maxRecDepth 65536 in
theorem w_c2 : (Jvm.Cond.code ({ cls := "java/lang/Object", name := "<init>", desc := "()V" } : Jvm.MethodName) object_method_1_code (1 : Nat) (Option.none : Option Jvm.ClassFile.FieldType)).before args0 about1 = true := code_word (m := ⟨0, 0⟩) (meth := k0m0) (c := k0c0) (by decide +kernel) rfl rfl rfl (by decide +kernel)
set_option maxRecDepth 65536 in
theorem w_c3 : (Jvm.Cond.code ({ cls := "java/util/HashMap", name := "<init>", desc := "()V" } : Jvm.MethodName) jdk_69_method_7_code (1 : Nat) (Option.none : Option Jvm.ClassFile.FieldType)).before args0 about1 = true := code_word (m := ⟨7, 0⟩) (meth := k7m0) (c := k7c0) (by decide +kernel) rfl rfl rfl (by decide +kernel)
set_option maxRecDepth 65536 in
theorem w_c4 : (Jvm.Cond.code ({ cls := "java/util/AbstractMap", name := "<init>", desc := "()V" } : Jvm.MethodName) jdk_71_method_1_code (1 : Nat) (Option.none : Option Jvm.ClassFile.FieldType)).before args0 about1 = true := code_word (m := ⟨4, 0⟩) (meth := k4m0) (c := k4c0) (by decide +kernel) rfl rfl rfl (by decide +kernel)
set_option maxRecDepth 65536 in
theorem w_c5 : (Jvm.Cond.code ({ cls := "com/example/usher/usher/cli/Tally", name := "pairsPerSecond", desc := "(I)J" } : Jvm.MethodName) prog_4_method_7_code (2 : Nat) (Option.some Jvm.ClassFile.FieldType.long)).before args0 about1 = true := code_word (m := ⟨2, 3⟩) (meth := k2m3) (c := k2c3) (by decide +kernel) rfl rfl rfl (by decide +kernel)
set_option maxRecDepth 65536 in
theorem w_c6 : (Jvm.Cond.code ({ cls := "com/example/usher/usher/cli/Tally", name := "pair", desc := "(J)V" } : Jvm.MethodName) prog_4_method_2_code (5 : Nat) (Option.none : Option Jvm.ClassFile.FieldType)).before args0 about1 = true := code_word (m := ⟨2, 1⟩) (meth := k2m1) (c := k2c1) (by decide +kernel) rfl rfl rfl (by decide +kernel)
set_option maxRecDepth 65536 in
theorem w_c7 : (Jvm.Cond.code ({ cls := "com/example/usher/usher/cli/Tally", name := "failure", desc := "()V" } : Jvm.MethodName) prog_4_method_3_code (1 : Nat) (Option.none : Option Jvm.ClassFile.FieldType)).before args0 about1 = true := code_word (m := ⟨2, 2⟩) (meth := k2m2) (c := k2c2) (by decide +kernel) rfl rfl rfl (by decide +kernel)
def codes1 : List Jvm.Cond := [Jvm.Cond.code x code maxLocals ret, Jvm.Cond.code ({ cls := "com/example/usher/usher/cli/Tally", name := "<init>", desc := "()V" } : Jvm.MethodName) prog_4_method_1_code (1 : Nat) (Option.none : Option Jvm.ClassFile.FieldType), Jvm.Cond.code ({ cls := "java/lang/Object", name := "<init>", desc := "()V" } : Jvm.MethodName) object_method_1_code (1 : Nat) (Option.none : Option Jvm.ClassFile.FieldType), Jvm.Cond.code ({ cls := "java/util/HashMap", name := "<init>", desc := "()V" } : Jvm.MethodName) jdk_69_method_7_code (1 : Nat) (Option.none : Option Jvm.ClassFile.FieldType), Jvm.Cond.code ({ cls := "java/util/AbstractMap", name := "<init>", desc := "()V" } : Jvm.MethodName) jdk_71_method_1_code (1 : Nat) (Option.none : Option Jvm.ClassFile.FieldType), Jvm.Cond.code ({ cls := "com/example/usher/usher/cli/Tally", name := "pairsPerSecond", desc := "(I)J" } : Jvm.MethodName) prog_4_method_7_code (2 : Nat) (Option.some Jvm.ClassFile.FieldType.long), Jvm.Cond.code ({ cls := "com/example/usher/usher/cli/Tally", name := "pair", desc := "(J)V" } : Jvm.MethodName) prog_4_method_2_code (5 : Nat) (Option.none : Option Jvm.ClassFile.FieldType), Jvm.Cond.code ({ cls := "com/example/usher/usher/cli/Tally", name := "failure", desc := "()V" } : Jvm.MethodName) prog_4_method_3_code (1 : Nat) (Option.none : Option Jvm.ClassFile.FieldType)]
set_option maxRecDepth 65536 in
theorem codes_eq : words1.filter isCode = codes1 := rfl
theorem w_codes : ∀ c ∈ words1.filter isCode, c.before args0 about1 = true := by
  rw [codes_eq]
  intro c hc
  simp only [codes1, List.mem_cons, List.not_mem_nil, or_false] at hc
  rcases hc with rfl | rfl | rfl | rfl | rfl | rfl | rfl | rfl
  · exact w_c0
  · exact w_c1
  · exact w_c2
  · exact w_c3
  · exact w_c4
  · exact w_c5
  · exact w_c6
  · exact w_c7
set_option maxRecDepth 65536 in
theorem w_t1 : (words1.take 24).all (fun c => isCode c || c.before args0 about1) = true := by decide +kernel
set_option maxRecDepth 65536 in
theorem w_t2 : ((words1.drop 24).take 24).all (fun c => isCode c || c.before args0 about1) = true := by decide +kernel
set_option maxRecDepth 65536 in
theorem w_t3 : ((words1.drop 24).drop 24).all (fun c => isCode c || c.before args0 about1) = true := by decide +kernel
theorem w_tables : (allAtoms (Jvm.Cond.code x code maxLocals ret :: tables_1)).before args0 about1 = true := by
  rw [allAtoms_all]
  show words1.all (fun c => c.before args0 about1) = true
  refine all_split ?_ w_codes
  rw [← List.take_append_drop 24 words1, List.all_append, w_t1, ← List.take_append_drop 24 (words1.drop 24), List.all_append, w_t2, w_t3]
  rfl
set_option maxRecDepth 65536 in
theorem w_case : (Jvm.Cond.and given_1 narrow_1).before args0 about1 = true := by decide +kernel
theorem w_applies : (headSpec (Jvm.Cond.code x code maxLocals ret :: tables_1) room_1).applies x e0.platform about1 = true :=
  (Spec.applies_iff w_frames).mpr ⟨w_running, w_runnable, w_alone, w_named, w_hears, w_ripe, w_room, w_tables⟩
theorem atStart : AtStart classFile x code maxLocals ret World_1 tables_1 room_1 Calls_1 rest_1 Pre_1 launch0 p0 e0 about1 theMethod args0 below0 :=
  ⟨lists_1, trivial, launch0.admits_env _ _ _, launch0.least_env, fairChoices_fair.cas, fairChoices_fair.clock, w_frames, w_args, w_heap, w_applies, trivial, trivial, w_case⟩
end start1
theorem witness_1 : WitnessClaimed_1 := ⟨start1.p0, start1.e0, start1.about1, start1.theMethod, start1.args0, start1.below0, start1.atStart⟩
end Jvm.Pilot.@@N@@
