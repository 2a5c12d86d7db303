import JvmDerived
import JvmDerived.Pilot.@@N@@Statement
import JvmDerived.Pilot.@@N@@Code
set_option linter.unusedVariables false
set_option linter.unusedSimpArgs false
namespace Jvm.Pilot.@@N@@
open Jvm Jvm.ClassFile Sem Op Lib Jvm.Free Jvm.Stand Jvm.LawKit Jvm.RoadKit Bundle Jvm.Pilot.@@N@@.Jvm.D
section JU
variable {tb : Tables} [Ours tb] {e : Env} {below : List Frame} {T target : State} {m : MethodId} {c : Code} {g : JFrame}
theorem yI (h : At T m c below) (hx : tb.exec = Jvm.exec) (hg : g.method = m) {cd : Jvm.ClassFile.Cond} {x : Int32} {rest : List Value} {o : Int} (pc0 pc' : Nat) (hpc : g.pc = pc0) (hd : decode c.code g.pc = .ok (.ifCond cd o, 3)) (hs : g.stack = .int x :: rest) (hc : ifCond.holds cd x = true) (hr : Steps tb e below (T.setTop { g with pc := pc', stack := rest }) target) (ho : 0 ≤ (pc0 : Int) + o := by decide) (hp : ((pc0 : Int) + o).toNat = pc' := by decide) : Steps tb e below (T.setTop g) target := XS.ifYes h hx hg hpc hd hs hc ho hp hr
theorem yC (h : At T m c below) (hx : tb.exec = Jvm.exec) (hg : g.method = m) {cd : Jvm.ClassFile.Cond} {x y : Int32} {rest : List Value} {o : Int} (pc0 pc' : Nat) (hpc : g.pc = pc0) (hd : decode c.code g.pc = .ok (.if_icmp cd o, 3)) (hs : g.stack = .int y :: .int x :: rest) (hc : if_icmp.holds cd x y = true) (hr : Steps tb e below (T.setTop { g with pc := pc', stack := rest }) target) (ho : 0 ≤ (pc0 : Int) + o := by decide) (hp : ((pc0 : Int) + o).toNat = pc' := by decide) : Steps tb e below (T.setTop g) target := XS.icmpYes h hx hg hpc hd hs hc ho hp hr
theorem yG (h : At T m c below) (hx : tb.exec = Jvm.exec) (hg : g.method = m) {o : Int} (pc0 pc' : Nat) (hpc : g.pc = pc0) (hd : decode c.code g.pc = .ok (.goto o, 3)) (hr : Steps tb e below (T.setTop { g with pc := pc' }) target) (ho : 0 ≤ (pc0 : Int) + o := by decide) (hp : ((pc0 : Int) + o).toNat = pc' := by decide) : Steps tb e below (T.setTop g) target := XS.goto h hx hg hpc hd ho hp hr
end JU
theorem own_w {a b : Nat} (h : a = b) : a ≤ b := Nat.le_of_eq h
abbrev MFP (l : Launch) (Z : State) (y : MethodName) (bytes : ByteArray) (ml : Nat) (rt : Option FieldType) (rm : Room) (ws : List Jvm.Cond) (A : Array Value) (h0 : Heap) (Q : Option Value → Heap → List Loc → Prop) : Prop :=
  MetFree l y (head1 (Jvm.Cond.code y bytes ml rt :: ws) rm) (fun a U => a = A ∧ Z.Warmed39 U.vm ∧ U.heap = h0) (fun _ _ _ _ _ => True) (fun _ U o U' => ∃ v L, o = .returned v ∧ Q v U'.heap L ∧ FrameEnd U o U' L rm.cells rm.slots)
abbrev MFS (l : Launch) (Z : State) (y : MethodName) (bytes : ByteArray) (ml : Nat) (rt : Option FieldType) (rm : Room) (ws : List Jvm.Cond) (A : Array Value) (h0 : Heap) (Q : Option Value → Heap → List Loc → Prop) : Prop :=
  MetFree l y (head1 (Jvm.Cond.code y bytes ml rt :: ws) rm) (fun a U => a = A ∧ Z.Warmed39 U.vm ∧ U.heap = h0) (fun _ _ _ _ _ => True) (fun _ U o U' => ∃ v L, o = .returned v ∧ Q v U'.heap L ∧ ReturnedEndW U o U' L rm.cells rm.slots)
abbrev MFI (l : Launch) (Z : State) (y : MethodName) (bytes : ByteArray) (ml : Nat) (rt : Option FieldType) (rm : Room) (ws : List Jvm.Cond) (A : Array Value) (h0 : Heap) (Q : Option Value → Heap → List Loc → Prop) : Prop :=
  MetFree l y (head1 (Jvm.Cond.code y bytes ml rt :: ws) rm) (fun a U => a = A ∧ Z.Warmed39 U.vm ∧ U.heap = h0 ∧ U.vm.interned = Z.vm.interned) (fun _ _ _ _ _ => True) (fun _ U o U' => ∃ v L, o = .returned v ∧ Q v U'.heap L ∧ ReturnedEndW U o U' L rm.cells rm.slots)
abbrev Kt (p : Program) (e : Env) (below : List Frame) (T st0 : State) (g : JFrame) : Prop := ∀ t, Steps p.tables e below (T.setTop g) t → Steps p.tables e below st0 t
section KL
variable {p : Program} {l : Launch} {e : Env} {R : Room} {s : State} {m : MethodId} {args : Array Value} {below : List Frame} {meth : Method} {c : Code} {T : State} {locs : List Loc} {cells slots : Nat} {Z : State} {a0 : Array Value} {h : Heap} {st0 : State} {g : JFrame}
theorem kget (X : Stand p l e R s m args below meth c T locs cells slots) (hx : p.tables.exec = Jvm.exec) (hZ : Z.Warmed39 s.vm) {own R0 O n d host : String} {index : Nat} (hown : s.vm.findClass own = some m.cls) (w : (Jvm.Cond.fieldLink own index R0 n d).before a0 Z = true ∨ (Jvm.Cond.fieldLinkNest own index R0 n d host).before a0 Z = true) (via : Via Z R0 O n d) (eT : T.heap = h) {a : Addr} {v : Value} (F : Fld Z h a O n d v) (k : Kt p e below T st0 g) (hg : g.method = m) {rest : List Value} (hs : g.stack = .ref a :: rest) (hd : decode c.code g.pc = .ok (.getfield index, 3)) :
    ∃ T', Stand p l e R s m args below meth c T' locs cells slots ∧ T'.heap = h ∧ Kt p e below T' st0 { g with pc := g.pc + 3, stack := v :: rest } := by
  obtain ⟨T', X', e', st⟩ := getF X hx hZ hown w via eT F hg hs hd
  exact ⟨T', X', e', fun t q => k t (st t q)⟩
theorem kgetS (X : Stand p l e R s m args below meth c T locs cells slots) (hx : p.tables.exec = Jvm.exec) (hZ : Z.Warmed39 s.vm) {own R0 O n d host : String} {index : Nat} (hown : s.vm.findClass own = some m.cls) (w : (Jvm.Cond.fieldLink own index R0 n d).before a0 Z = true ∨ (Jvm.Cond.fieldLinkNest own index R0 n d host).before a0 Z = true) (via : Via Z R0 O n d) (eT : T.heap = h) {v : Value} (F : Sta Z h O n d v) (k : Kt p e below T st0 g) (hg : g.method = m) (hd : decode c.code g.pc = .ok (.getstatic index, 3)) :
    ∃ T', Stand p l e R s m args below meth c T' locs cells slots ∧ T'.heap = h ∧ Kt p e below T' st0 { g with pc := g.pc + 3, stack := v :: g.stack } := by
  obtain ⟨T', X', e', st⟩ := getS2 X hx hZ hown w via eT F hg hd
  exact ⟨T', X', e', fun t q => k t (st t q)⟩
theorem kput (X : Stand p l e R s m args below meth c T locs cells slots) (hx : p.tables.exec = Jvm.exec) (hZ : Z.Warmed39 s.vm) {own R0 O n d host C : String} {index kk : Nat} (ty : FieldType) (hown : s.vm.findClass own = some m.cls) (w : (Jvm.Cond.fieldLink own index R0 n d).before a0 Z = true ∨ (Jvm.Cond.fieldLinkNest own index R0 n d host).before a0 Z = true) (via : Via Z R0 O n d) (eT : T.heap = h) {a : Addr} {v old : Value} (F : Fld Z h a O n d old) (E : Exa Z h a C) (L : (Jvm.Cond.lays C O n d).before a0 Z = true ∨ ((Jvm.Cond.laysFinal C O n d).before a0 Z = true ∧ own = O ∧ meth.name = "<init>")) (wi : (Jvm.Cond.instantiable C kk).before a0 Z = true)
    (k : Kt p e below T st0 g) (hg : g.method = m) {rest : List Value} (hs : g.stack = v :: .ref a :: rest) (hd : decode c.code g.pc = .ok (.putfield index, 3)) (hty : parseFieldDescriptor d = some ty) (hn : narrow ty v = v) (hf : fits ty v = true) {n0 : Nat} (O0 : Old Z n0 h) (N : Fr n0 locs) (ge : n0 ≤ a) :
    ∃ T' h', Stand p l e R s m args below meth c T' (locs ++ [⟨a, Jvm.RoadKit.slotOf Z O n d⟩]) cells slots ∧ T'.heap = h' ∧ Wr h h' a (Jvm.RoadKit.slotOf Z O n d) v ∧ Fld Z h' a O n d v ∧ Old Z n0 h' ∧ Fr n0 (locs ++ [⟨a, Jvm.RoadKit.slotOf Z O n d⟩]) ∧ Kt p e below T' st0 { g with pc := g.pc + 3, stack := rest } := by
  obtain ⟨T', h', X', e', W, st⟩ := putF X hx hZ hown w via eT F E L wi hty hn hf hg hs hd
  exact ⟨T', h', X', e', W, F.same W, O0.wr W ge, Fr.snoc X' N ge, fun t q => k t (st t q)⟩
theorem kputN (X : Stand p l e R s m args below meth c T locs cells slots) (hx : p.tables.exec = Jvm.exec) (hZ : Z.Warmed39 s.vm) {own R0 O n d C : String} {index kk : Nat} (ty : FieldType) (hown : s.vm.findClass own = some m.cls) (w : (Jvm.Cond.fieldLink own index R0 n d).before a0 Z = true) (via : Via Z R0 O n d) (eT : T.heap = h) {a : Addr} {v v' old : Value} (F : Fld Z h a O n d old) (E : Exa Z h a C) (L : (Jvm.Cond.lays C O n d).before a0 Z = true ∨ ((Jvm.Cond.laysFinal C O n d).before a0 Z = true ∧ own = O ∧ meth.name = "<init>")) (wi : (Jvm.Cond.instantiable C kk).before a0 Z = true)
    (k : Kt p e below T st0 g) (hg : g.method = m) {rest : List Value} (hs : g.stack = v :: .ref a :: rest) (hd : decode c.code g.pc = .ok (.putfield index, 3)) (hty : parseFieldDescriptor d = some ty) (hn : narrow ty v = v') (hf : fits ty v' = true) {n0 : Nat} (O0 : Old Z n0 h) (N : Fr n0 locs) (ge : n0 ≤ a) :
    ∃ T' h', Stand p l e R s m args below meth c T' (locs ++ [⟨a, Jvm.RoadKit.slotOf Z O n d⟩]) cells slots ∧ T'.heap = h' ∧ Wr h h' a (Jvm.RoadKit.slotOf Z O n d) v' ∧ Fld Z h' a O n d v' ∧ Old Z n0 h' ∧ Fr n0 (locs ++ [⟨a, Jvm.RoadKit.slotOf Z O n d⟩]) ∧ Kt p e below T' st0 { g with pc := g.pc + 3, stack := rest } := by
  obtain ⟨T', h', X', e', W, st⟩ := putFN X hx hZ hown w via eT F E L wi hty hn hf hg hs hd
  exact ⟨T', h', X', e', W, F.same W, O0.wr W ge, Fr.snoc X' N ge, fun t q => k t (st t q)⟩
theorem kcast (X : Stand p l e R s m args below meth c T locs cells slots) (hx : p.tables.exec = Jvm.exec) (hZ : Z.Warmed39 s.vm) {own K : String} {index : Nat} (hown : s.vm.findClass own = some m.cls) (w : (Jvm.Cond.classLink own index K).before a0 Z = true) (eT : T.heap = h) {a : Addr} (F : Ins Z h a K true) (k : Kt p e below T st0 g) (hg : g.method = m) {rest : List Value} (hs : g.stack = .ref a :: rest) (hd : decode c.code g.pc = .ok (.checkcast index, 3)) :
    ∃ T', Stand p l e R s m args below meth c T' locs cells slots ∧ T'.heap = h ∧ Kt p e below T' st0 { g with pc := g.pc + 3 } := by
  obtain ⟨T', X', e', st⟩ := castY X hx hZ hown w eT F hg hs hd
  exact ⟨T', X', e', fun t q => k t (st t q)⟩
theorem kinst (X : Stand p l e R s m args below meth c T locs cells slots) (hx : p.tables.exec = Jvm.exec) (hZ : Z.Warmed39 s.vm) {own K : String} {index : Nat} (hown : s.vm.findClass own = some m.cls) (w : (Jvm.Cond.classLink own index K).before a0 Z = true) (eT : T.heap = h) {a : Addr} (F : Ins Z h a K true) (k : Kt p e below T st0 g) (hg : g.method = m) {rest : List Value} (hs : g.stack = .ref a :: rest) (hd : decode c.code g.pc = .ok (.instanceof index, 3)) :
    ∃ T', Stand p l e R s m args below meth c T' locs cells slots ∧ T'.heap = h ∧ Kt p e below T' st0 { g with pc := g.pc + 3, stack := .int 1 :: rest } := by
  obtain ⟨T', X', e', st⟩ := instY X hx hZ hown w eT F hg hs hd
  exact ⟨T', X', e', fun t q => k t (st t q)⟩
theorem knew (X : Stand p l e R s m args below meth c T locs cells slots) (hx : p.tables.exec = Jvm.exec) (hZ : Z.Warmed39 s.vm) {own C : String} {index n : Nat} (hown : s.vm.findClass own = some m.cls) (w : (Jvm.Cond.classLink own index C).before a0 Z = true) (wi : (Jvm.Cond.instantiable C n).before a0 Z = true) (wz : (Jvm.Cond.initialized C).before a0 Z = true) (eT : T.heap = h) (k : Kt p e below T st0 g) (hg : g.method = m) (hd : decode c.code g.pc = .ok (.new index, 3)) (hc : cells + 1 ≤ R.cells) (hl : slots + n ≤ R.slots) {n0 : Nat} (O0 : Old Z n0 h) :
    ∃ b T' h', h.size ≤ b ∧ n0 ≤ b ∧ Stand p l e R s m args below meth c T' locs (cells + 1) (slots + n) ∧ T'.heap = h' ∧ Ext h h' ∧ Old Z n0 h' ∧ Exa Z h' b C ∧ (∀ {O nm d : String} {ty : FieldType}, Jvm.RoadKit.Laid Z a0 C O nm d → parseFieldDescriptor d = some ty → Fld Z h' b O nm d (defaultValue ty)) ∧ (∃ cell : Cell, h'[b]? = some cell ∧ cell.vm = .none ∧ cell.monitor = {}) ∧ Kt p e below T' st0 { g with pc := g.pc + 3, stack := .ref b :: g.stack } := by
  obtain ⟨T', h', X', e', E, A, D, U, st⟩ := newO X hx hZ hown w wi wz eT hg hd hc hl
  exact ⟨h.size, T', h', Nat.le_refl _, Nat.le_trans (Nat.le_of_eq O0.1.symm) O0.2.1, X', e', E, O0.ext E, A, D, U, fun t q => k t (st t q)⟩
theorem knewP (X : Stand p l e R s m args below meth c T locs cells slots) (hx : p.tables.exec = Jvm.exec) (hZ : Z.Warmed39 s.vm) {aty : ArrayType} (w : (Jvm.Cond.arrayClass (newarray.typeOf aty)).before a0 Z = true) (eT : T.heap = h) (k : Kt p e below T st0 g) (hg : g.method = m) (hd : decode c.code g.pc = .ok (.newarray aty, 2)) {n : Int32} {rest : List Value} (hs : g.stack = .int n :: rest) (hn : ¬ n < 0) (cap : Nat) (hcap : n.toNatClampNeg ≤ cap) (hb : cap * 8 ≤ 536870912) (hc : cells + 1 ≤ R.cells) (hl : slots + cap ≤ R.slots) {n0 : Nat} (O0 : Old Z n0 h) :
    ∃ b T' h' cA, h.size ≤ b ∧ n0 ≤ b ∧ Stand p l e R s m args below meth c T' locs (cells + 1) (slots + cap) ∧ T'.heap = h' ∧ Ext h h' ∧ Old Z n0 h' ∧ Arv Z h' b cA (newarray.typeOf aty) n [] (defaultValue (newarray.typeOf aty)) ∧ Kt p e below T' st0 { g with pc := g.pc + 2, stack := .ref b :: rest } := by
  obtain ⟨T', h', cA, X', e', E, A, st⟩ := newP X hx hZ w eT hg hd hs hn hcap hb hc hl
  exact ⟨h.size, T', h', cA, Nat.le_refl _, Nat.le_trans (Nat.le_of_eq O0.1.symm) O0.2.1, X', e', E, O0.ext E, Arv.new A hn, fun t q => k t (st t q)⟩
theorem kinit (X : Stand p l e R s m args below meth c T locs cells slots) (hx : p.tables.exec = Jvm.exec) (hZ : Z.Warmed39 s.vm) {own : String} {idx : Nat} (hown : s.vm.findClass own = some m.cls) (w1 : (Jvm.Cond.methodLink own idx Lib.objectInit).before a0 Z = true) (w2 : (Jvm.Cond.instanceMethod Lib.objectInit).before a0 Z = true) (w3 : (Jvm.Cond.code Lib.objectInit ⟨#[0xb1]⟩ 1 none).before a0 Z = true) (eT : T.heap = h) (k : Kt p e below T st0 g) (hg : g.method = m) {M : Nat} (hml : c.maxLocals = M) (hsize : g.locals.size = M) {a : Addr} {rest : List Value} (hs : g.stack = .ref a :: rest) (hd : decode c.code g.pc = .ok (.invokespecial idx, 3)) (W : Nat) (hW : 2 * g.monitorRoom + (rest.map fun v => v.category).sum ≤ W) (hf : 1 ≤ R.frames) (hl : W + 12 ≤ R.locals) :
    ∃ T', Stand p l e R s m args below meth c T' locs cells slots ∧ T'.heap = h ∧ Kt p e below T' st0 { g with pc := g.pc + 3, stack := rest } := by
  obtain ⟨T', X', e', st⟩ := initO X hx hZ hown w1 w2 w3 eT hg (hsize.trans hml.symm) hs hd hf hW hl
  exact ⟨T', X', e', fun t q => k t (st t q)⟩
theorem kstC (X : Stand p l e R s m args below meth c T locs cells slots) (hx : p.tables.exec = Jvm.exec) (hZ : Z.Warmed39 s.vm) (eT : T.heap = h) {a : Addr} {ka : ClassId} {z : Int32} {vs : List Value} {dv : Value} (A : Arv Z h a ka .char z vs dv) {j x : Int32} (q1 : ¬ j < 0) (q2 : j < z) (i : Nat) (hj : j.toNatClampNeg = i) (hi : i < vs.length) (k : Kt p e below T st0 g) (hg : g.method = m) {rest : List Value} (hs : g.stack = .int x :: .int j :: .ref a :: rest) (hd : decode c.code g.pc = .ok (.castore, 1)) {n0 : Nat} (O0 : Old Z n0 h) (N : Fr n0 locs) (ge : n0 ≤ a) :
    ∃ T' h', Stand p l e R s m args below meth c T' (locs ++ [⟨a, j.toNatClampNeg⟩]) cells slots ∧ T'.heap = h' ∧ Wr h h' a j.toNatClampNeg (.int (nar .char x)) ∧ Arv Z h' a ka .char z (vs.set i (.int (nar .char x))) dv ∧ Old Z n0 h' ∧ Fr n0 (locs ++ [⟨a, j.toNatClampNeg⟩]) ∧ Kt p e below T' st0 { g with pc := g.pc + 1, stack := rest } := by
  obtain ⟨cl, Ar, b1, S, M, H, G⟩ := A
  obtain ⟨T', h', X', e', W, st⟩ := stC X hx hZ eT Ar (inb_of S ⟨q1, q2⟩) hg hs hd
  exact ⟨T', h', X', e', W, Arv.set Ar b1 S M H G (fits_nar_char _) W i hj hi, O0.wr W ge, Fr.snoc X' N ge, fun t q => k t (st t q)⟩
theorem kstB (X : Stand p l e R s m args below meth c T locs cells slots) (hx : p.tables.exec = Jvm.exec) (hZ : Z.Warmed39 s.vm) (eT : T.heap = h) {a : Addr} {ka : ClassId} {z : Int32} {vs : List Value} {dv : Value} (A : Arv Z h a ka .byte z vs dv) {j x : Int32} (q1 : ¬ j < 0) (q2 : j < z) (i : Nat) (hj : j.toNatClampNeg = i) (hi : i < vs.length) (k : Kt p e below T st0 g) (hg : g.method = m) {rest : List Value} (hs : g.stack = .int x :: .int j :: .ref a :: rest) (hd : decode c.code g.pc = .ok (.bastore, 1)) {n0 : Nat} (O0 : Old Z n0 h) (N : Fr n0 locs) (ge : n0 ≤ a) :
    ∃ T' h', Stand p l e R s m args below meth c T' (locs ++ [⟨a, j.toNatClampNeg⟩]) cells slots ∧ T'.heap = h' ∧ Wr h h' a j.toNatClampNeg (.int (nar .byte x)) ∧ Arv Z h' a ka .byte z (vs.set i (.int (nar .byte x))) dv ∧ Old Z n0 h' ∧ Fr n0 (locs ++ [⟨a, j.toNatClampNeg⟩]) ∧ Kt p e below T' st0 { g with pc := g.pc + 1, stack := rest } := by
  obtain ⟨cl, Ar, b1, S, M, H, G⟩ := A
  obtain ⟨T', h', X', e', W, st⟩ := stB X hx hZ eT Ar (inb_of S ⟨q1, q2⟩) hg hs hd
  exact ⟨T', h', X', e', W, Arv.set Ar b1 S M H G (fits_nar_byte _) W i hj hi, O0.wr W ge, Fr.snoc X' N ge, fun t q => k t (st t q)⟩
theorem kstI (X : Stand p l e R s m args below meth c T locs cells slots) (hx : p.tables.exec = Jvm.exec) (hZ : Z.Warmed39 s.vm) (eT : T.heap = h) {a : Addr} {ka : ClassId} {z : Int32} {vs : List Value} {dv : Value} (A : Arv Z h a ka .int z vs dv) {j x : Int32} (q1 : ¬ j < 0) (q2 : j < z) (i : Nat) (hj : j.toNatClampNeg = i) (hi : i < vs.length) (k : Kt p e below T st0 g) (hg : g.method = m) {rest : List Value} (hs : g.stack = .int x :: .int j :: .ref a :: rest) (hd : decode c.code g.pc = .ok (.iastore, 1)) {n0 : Nat} (O0 : Old Z n0 h) (N : Fr n0 locs) (ge : n0 ≤ a) :
    ∃ T' h', Stand p l e R s m args below meth c T' (locs ++ [⟨a, j.toNatClampNeg⟩]) cells slots ∧ T'.heap = h' ∧ Wr h h' a j.toNatClampNeg (.int x) ∧ Arv Z h' a ka .int z (vs.set i (.int x)) dv ∧ Old Z n0 h' ∧ Fr n0 (locs ++ [⟨a, j.toNatClampNeg⟩]) ∧ Kt p e below T' st0 { g with pc := g.pc + 1, stack := rest } := by
  obtain ⟨cl, Ar, b1, S, M, H, G⟩ := A
  obtain ⟨T', h', X', e', W, st⟩ := stI X hx hZ eT Ar (inb_of S ⟨q1, q2⟩) hg hs hd
  exact ⟨T', h', X', e', W, Arv.set Ar b1 S M H G rfl W i hj hi, O0.wr W ge, Fr.snoc X' N ge, fun t q => k t (st t q)⟩
theorem ldC {t : State} (X : Stand p l e R s m args below meth c T locs cells slots) (hx : p.tables.exec = Jvm.exec) (hZ : Z.Warmed39 s.vm) (eT : T.heap = h) {a : Addr} {ka : ClassId} {z : Int32} {vs : List Value} {dv v : Value} (A : Arv Z h a ka .char z vs dv) {j : Int32} (q1 : ¬ j < 0) (q2 : j < z) (hv : vs.getD j.toNatClampNeg dv = v) (hg : g.method = m) {rest : List Value} (hs : g.stack = .int j :: .ref a :: rest) (hd : decode c.code g.pc = .ok (.caload, 1)) (q : Steps p.tables e below (T.setTop { g with pc := g.pc + 1, stack := v :: rest }) t) : Steps p.tables e below (T.setTop g) t := by
  obtain ⟨cl, Ar, b1, S, M, H, G⟩ := A
  exact X.caload hx (by rw [eT]; exact Ar.1) (State.isArrayOf_alike hZ.alike Ar.2.1) Ar.2.2 (inb_of S ⟨q1, q2⟩) (Has.at H (inb_of S ⟨q1, q2⟩) hv) hg hs hd _ q
theorem ldB {t : State} (X : Stand p l e R s m args below meth c T locs cells slots) (hx : p.tables.exec = Jvm.exec) (hZ : Z.Warmed39 s.vm) (eT : T.heap = h) {a : Addr} {ka : ClassId} {z : Int32} {vs : List Value} {dv v : Value} (A : Arv Z h a ka .byte z vs dv) {j : Int32} (q1 : ¬ j < 0) (q2 : j < z) (hv : vs.getD j.toNatClampNeg dv = v) (hg : g.method = m) {rest : List Value} (hs : g.stack = .int j :: .ref a :: rest) (hd : decode c.code g.pc = .ok (.baload, 1)) (q : Steps p.tables e below (T.setTop { g with pc := g.pc + 1, stack := v :: rest }) t) : Steps p.tables e below (T.setTop g) t := by
  obtain ⟨cl, Ar, b1, S, M, H, G⟩ := A
  exact X.baloadBytes hx (by rw [eT]; exact Ar.1) (State.isArrayOf_alike hZ.alike Ar.2.1) Ar.2.2 (inb_of S ⟨q1, q2⟩) (Has.at H (inb_of S ⟨q1, q2⟩) hv) hg hs hd _ q
theorem ldI {t : State} (X : Stand p l e R s m args below meth c T locs cells slots) (hx : p.tables.exec = Jvm.exec) (hZ : Z.Warmed39 s.vm) (eT : T.heap = h) {a : Addr} {ka : ClassId} {z : Int32} {vs : List Value} {dv v : Value} (A : Arv Z h a ka .int z vs dv) {j : Int32} (q1 : ¬ j < 0) (q2 : j < z) (hv : vs.getD j.toNatClampNeg dv = v) (hg : g.method = m) {rest : List Value} (hs : g.stack = .int j :: .ref a :: rest) (hd : decode c.code g.pc = .ok (.iaload, 1)) (q : Steps p.tables e below (T.setTop { g with pc := g.pc + 1, stack := v :: rest }) t) : Steps p.tables e below (T.setTop g) t := by
  obtain ⟨cl, Ar, b1, S, M, H, G⟩ := A
  exact X.iaload hx (by rw [eT]; exact Ar.1) (State.isArrayOf_alike hZ.alike Ar.2.1) Ar.2.2 (inb_of S ⟨q1, q2⟩) (Has.at H (inb_of S ⟨q1, q2⟩) hv) hg hs hd _ q
theorem ldA {t : State} (X : Stand p l e R s m args below meth c T locs cells slots) (hx : p.tables.exec = Jvm.exec) (hZ : Z.Warmed39 s.vm) (eT : T.heap = h) {a : Addr} {ka : ClassId} {C : String} {z : Int32} {vs : List Value} {dv v : Value} (A : Arv Z h a ka (.object C) z vs dv) {j : Int32} (q1 : ¬ j < 0) (q2 : j < z) (hv : vs.getD j.toNatClampNeg dv = v) (hg : g.method = m) {rest : List Value} (hs : g.stack = .int j :: .ref a :: rest) (hd : decode c.code g.pc = .ok (.aaload, 1)) (q : Steps p.tables e below (T.setTop { g with pc := g.pc + 1, stack := v :: rest }) t) : Steps p.tables e below (T.setTop g) t := by
  obtain ⟨cl, Ar, b1, S, M, H, G⟩ := A
  exact X.aaload hx (by rw [eT]; exact Ar.1) (State.isArrayOf_alike hZ.alike Ar.2.1) rfl Ar.2.2 (inb_of S ⟨q1, q2⟩) (Has.at H (inb_of S ⟨q1, q2⟩) hv) hg hs hd _ q
theorem ldLen {t : State} (X : Stand p l e R s m args below meth c T locs cells slots) (hx : p.tables.exec = Jvm.exec) (hZ : Z.Warmed39 s.vm) (eT : T.heap = h) {a : Addr} {ka : ClassId} {ty : FieldType} {z : Int32} {vs : List Value} {dv : Value} (A : Arv Z h a ka ty z vs dv) (hg : g.method = m) {rest : List Value} (hs : g.stack = .ref a :: rest) (hd : decode c.code g.pc = .ok (.arraylength, 1)) (q : Steps p.tables e below (T.setTop { g with pc := g.pc + 1, stack := .int z :: rest }) t) : Steps p.tables e below (T.setTop g) t := by
  obtain ⟨cl, Ar, b1, S, M, H, G⟩ := A
  refine X.arraylength hx (by rw [eT]; exact Ar.1) (State.isArrayOf_alike hZ.alike Ar.2.1) hg hs hd _ ?_
  rw [len_of S M]; exact q
variable {y z : MethodName} {bytes : ByteArray} {ml : Nat} {rt : Option FieldType} {rm : Room} {as' : Array Value} {Q : Option Value → Heap → List Loc → Prop}
theorem kstat (X : Stand p l e R s m args below meth c T locs cells slots) (hx : p.tables.exec = Jvm.exec) (hZ : Z.Warmed39 s.vm) {own : String} {index : Nat} (hown : s.vm.findClass own = some m.cls) (w1 : (Jvm.Cond.methodLink own index y).before a0 Z = true) (w2 : (Jvm.Cond.static y).before a0 Z = true) (w3 : (Jvm.Cond.initialized y.cls).before a0 Z = true) (w4 : (Jvm.Cond.code y bytes ml rt).before a0 Z = true) (hM : MFP l Z y bytes ml rt rm [] as' h Q) (eT : T.heap = h) (k : Kt p e below T st0 g) {M : Nat} (hml : c.maxLocals = M) {ps : List FieldType} {r : Option FieldType} (pd : parseMethodDescriptor y.desc = some ⟨ps, r⟩) (argsL rest : List Value) (W : Nat) (hd : decode c.code g.pc = .ok (.invokestatic index, 3))
    (hg : g.method = m) (hsize : g.locals.size = M) (hln : argsL.length = ps.length) (hst : g.stack = argsL.reverse ++ rest) (ha : argsL.toArray = as') (hW : 2 * g.monitorRoom + (rest.map fun v => v.category).sum = W) (hy : y.cls ≠ "java/lang/invoke/MethodHandle" ∧ y.cls ≠ "java/lang/invoke/VarHandle" := by decide) (hf : rm.frames + 1 ≤ R.frames := by decide) (hl : W + (ml + 11) + rm.locals ≤ R.locals := by decide) (hc : cells + rm.cells ≤ R.cells := by decide) (hs : slots + rm.slots ≤ R.slots := by decide) :
    ∃ v T' L', Stand p l e R s m args below meth c T' (locs ++ L') (cells + rm.cells) (slots + rm.slots) ∧ Q v T'.heap L' ∧ Kt p e below T' st0 { g with pc := g.pc + 3, stack := v.toList ++ rest } := by
  obtain ⟨v, _, ⟨T', L, k', n'⟩, -, X', ⟨Lc, hQ, e1, e2, e3⟩, st⟩ := Jvm.LawKit.callS X hx hown (mvT hZ w1) (mvT hZ w2) (mvT hZ w3) (mvT hZ w4) hy (backOf (W := W) hM hZ w4 w3 hf hl) hg (hsize.trans hml.symm) (argsL := argsL) (rest := rest) (lenOf pd hln) hst (Nat.le_of_eq hW) hd (fun _ _ => ⟨ha, eT, hc, hs⟩)
  dsimp only [Pt.U, Pt.locs, Pt.cells, Pt.slots] at X' e1 e2 e3 st hQ
  subst e1 e2 e3
  exact ⟨v, T', Lc, X', hQ, fun t q => k t (st t q)⟩
theorem kspec (X : Stand p l e R s m args below meth c T locs cells slots) (hx : p.tables.exec = Jvm.exec) (hZ : Z.Warmed39 s.vm) {own : String} {index : Nat} (hown : s.vm.findClass own = some m.cls) (w1 : (Jvm.Cond.methodLink own index y).before a0 Z = true) (w2 : (Jvm.Cond.instanceMethod y).before a0 Z = true) (w3 : (Jvm.Cond.initialized y.cls).before a0 Z = true) (w4 : (Jvm.Cond.code y bytes ml none).before a0 Z = true) (hM : MFP l Z y bytes ml none rm [] as' h Q) (eT : T.heap = h) (k : Kt p e below T st0 g) {M : Nat} (hml : c.maxLocals = M) {ps : List FieldType} {r : Option FieldType} (pd : parseMethodDescriptor y.desc = some ⟨ps, r⟩) (a : Addr) (argsL rest : List Value) (W : Nat) (hd : decode c.code g.pc = .ok (.invokespecial index, 3))
    (hg : g.method = m) (hsize : g.locals.size = M) (hln : argsL.length = ps.length) (hst : g.stack = argsL.reverse ++ .ref a :: rest) (ha : (Value.ref a :: argsL).toArray = as') (hW : 2 * g.monitorRoom + (rest.map fun v => v.category).sum = W) (hy1 : y.name = "<init>" := by rfl) (hy : y.cls ≠ "java/lang/invoke/MethodHandle" ∧ y.cls ≠ "java/lang/invoke/VarHandle" := by decide) (hf : rm.frames + 1 ≤ R.frames := by decide) (hl : W + (ml + 11) + rm.locals ≤ R.locals := by decide) (hc : cells + rm.cells ≤ R.cells := by decide) (hs : slots + rm.slots ≤ R.slots := by decide) :
    ∃ v T' L', Stand p l e R s m args below meth c T' (locs ++ L') (cells + rm.cells) (slots + rm.slots) ∧ Q v T'.heap L' ∧ Kt p e below T' st0 { g with pc := g.pc + 3, stack := v.toList ++ rest } := by
  obtain ⟨v, _, ⟨T', L, k', n'⟩, -, X', ⟨Lc, hQ, e1, e2, e3⟩, st⟩ := X.specialBack hx hy1 hown (mvT hZ w1) (mvT hZ w2) (mvT hZ w4) hy (backOf (W := W) hM hZ w4 w3 hf hl) hg (hsize.trans hml.symm) (Steps.refl _) (a := a) (argsL := argsL) (rest := rest) (lenOf pd hln) hst (Nat.le_of_eq hW) hd (fun _ _ => ⟨ha, eT, hc, hs⟩)
  dsimp only [Pt.U, Pt.locs, Pt.cells, Pt.slots] at X' e1 e2 e3 st hQ
  subst e1 e2 e3
  exact ⟨v, T', Lc, X', hQ, fun t q => k t (st.trans q)⟩
theorem kvirt (X : Stand p l e R s m args below meth c T locs cells slots) (hx : p.tables.exec = Jvm.exec) (hZ : Z.Warmed39 s.vm) {own C : String} {index : Nat} (hown : s.vm.findClass own = some m.cls) (w1 : (Jvm.Cond.methodLink own index y).before a0 Z = true) (w2 : (Jvm.Cond.declares y).before a0 Z = true) (w3 : (Jvm.Cond.selects C y y).before a0 Z = true) (w4 : (Jvm.Cond.instanceMethod y).before a0 Z = true) (w5 : (Jvm.Cond.code y bytes ml rt).before a0 Z = true) (w6 : (Jvm.Cond.initialized y.cls).before a0 Z = true) (hM : MFP l Z y bytes ml rt rm [] as' h Q) (eT : T.heap = h) {b : Addr} (E : Exa Z h b C) (k : Kt p e below T st0 g) {M : Nat} (hml : c.maxLocals = M) {ps : List FieldType} {r : Option FieldType} (pd : parseMethodDescriptor y.desc = some ⟨ps, r⟩) (argsL rest : List Value) (W : Nat) (hd : decode c.code g.pc = .ok (.invokevirtual index, 3))
    (hg : g.method = m) (hsize : g.locals.size = M) (hln : argsL.length = ps.length) (hst : g.stack = argsL.reverse ++ .ref b :: rest) (ha : (Value.ref b :: argsL).toArray = as') (hW : 2 * g.monitorRoom + (rest.map fun v => v.category).sum = W) (hy : y.cls ≠ "java/lang/invoke/MethodHandle" ∧ y.cls ≠ "java/lang/invoke/VarHandle" := by decide) (hf : rm.frames + 1 ≤ R.frames := by decide) (hl : W + (ml + 11) + rm.locals ≤ R.locals := by decide) (hc : cells + rm.cells ≤ R.cells := by decide) (hs : slots + rm.slots ≤ R.slots := by decide) :
    ∃ v T' L', Stand p l e R s m args below meth c T' (locs ++ L') (cells + rm.cells) (slots + rm.slots) ∧ Q v T'.heap L' ∧ Kt p e below T' st0 { g with pc := g.pc + 3, stack := v.toList ++ rest } := by
  obtain ⟨cB, kB, qa, qb, qc⟩ := isOf hZ eT E
  obtain ⟨v, _, ⟨T', L, k', n'⟩, -, X', ⟨Lc, hQ, e1, e2, e3⟩, st⟩ := X.virtualBack hx (y := y) (z := y) hown (mvT hZ w1) (mvT hZ w2) (notFace_of_selects (args := #[]) (mvT hZ w3)) (mvT hZ w3) (mvT hZ w4) hy (backOf (W := W) hM hZ w5 w6 hf hl) qa qc hg (hsize.trans hml.symm) (Steps.refl _) (argsL := argsL) (rest := rest) (lenOf pd hln) hst (Nat.le_of_eq hW) hd (fun _ _ => ⟨ha, eT, hc, hs⟩)
  dsimp only [Pt.U, Pt.locs, Pt.cells, Pt.slots] at X' e1 e2 e3 st hQ
  subst e1 e2 e3
  exact ⟨v, T', Lc, X', hQ, fun t q => k t (st.trans q)⟩
theorem kface (X : Stand p l e R s m args below meth c T locs cells slots) (hx : p.tables.exec = Jvm.exec) (hZ : Z.Warmed39 s.vm) {own C : String} {index count : Nat} (hown : s.vm.findClass own = some m.cls) (w1 : (Jvm.Cond.methodLink own index y).before a0 Z = true) (w2 : (Jvm.Cond.declares y).before a0 Z = true) (w3 : (Jvm.Cond.interfaceMethod y.cls y.cls y.name y.desc).before a0 Z = true) (w4 : (Jvm.Cond.selects C y z).before a0 Z = true) (w5 : (Jvm.Cond.instanceMethod z).before a0 Z = true) (w6 : (Jvm.Cond.publicMethod z).before a0 Z = true) (w7 : (Jvm.Cond.unhidden C y.name y.desc).before a0 Z = true) (w8 : (Jvm.Cond.castable C y.cls).before a0 Z = true) (w9 : (Jvm.Cond.code z bytes ml rt).before a0 Z = true) (w10 : (Jvm.Cond.initialized z.cls).before a0 Z = true) (hM : MFP l Z z bytes ml rt rm [] as' h Q) (eT : T.heap = h) {b : Addr} (E : Exa Z h b C) (k : Kt p e below T st0 g) {M : Nat} (hml : c.maxLocals = M) {ps : List FieldType} {r : Option FieldType} (pd : parseMethodDescriptor y.desc = some ⟨ps, r⟩) (argsL rest : List Value) (W : Nat) (hd : decode c.code g.pc = .ok (.invokeinterface index count, 5))
    (hg : g.method = m) (hsize : g.locals.size = M) (hln : argsL.length = ps.length) (hst : g.stack = argsL.reverse ++ .ref b :: rest) (ha : (Value.ref b :: argsL).toArray = as') (hW : 2 * g.monitorRoom + (rest.map fun v => v.category).sum = W) (hy : y.cls ≠ "java/lang/invoke/MethodHandle" ∧ y.cls ≠ "java/lang/invoke/VarHandle" := by decide) (hf : rm.frames + 1 ≤ R.frames := by decide) (hl : W + (ml + 11) + rm.locals ≤ R.locals := by decide) (hc : cells + rm.cells ≤ R.cells := by decide) (hs : slots + rm.slots ≤ R.slots := by decide) :
    ∃ v T' L', Stand p l e R s m args below meth c T' (locs ++ L') (cells + rm.cells) (slots + rm.slots) ∧ Q v T'.heap L' ∧ Kt p e below T' st0 { g with pc := g.pc + 5, stack := v.toList ++ rest } := by
  obtain ⟨cB, kB, qa, qb, qc⟩ := isOf hZ eT E
  obtain ⟨v, _, ⟨T', L, k', n'⟩, -, X', ⟨Lc, hQ, e1, e2, e3⟩, st⟩ := X.interfaceBack hx (xi := y) (y := z) hown (mvT hZ w1) (mvT hZ w2) (mvT hZ w3 (by simp [Jvm.Cond.onTables, Jvm.Cond.keepsFace, Jvm.Cond.keeps, Jvm.Cond.steady, Jvm.Cond.faceAtom, hy.1, hy.2])) (mvT hZ w4) (mvT hZ w5) (mvT hZ w6) (mvT hZ w7) (mvT hZ w8) hy (backOf (W := W) hM hZ w9 w10 hf hl) qa qb qc hg (hsize.trans hml.symm) (Steps.refl _) (argsL := argsL) (rest := rest) (lenOf pd hln) hst (Nat.le_of_eq hW) hd (fun _ _ => ⟨ha, eT, hc, hs⟩)
  dsimp only [Pt.U, Pt.locs, Pt.cells, Pt.slots] at X' e1 e2 e3 st hQ
  subst e1 e2 e3
  exact ⟨v, T', Lc, X', hQ, fun t q => k t (st.trans q)⟩
end KL
abbrev vi (x : Int32) : Slot := .val (.int x)
abbrev vr (a : Addr) : Slot := .val (.ref a)
abbrev vj (x : Int64) : Slot := .val (.long x)
abbrev ii (x : Int32) : Value := .int x
abbrev rr (a : Addr) : Value := .ref a
abbrev u_ : Slot := .unset
abbrev S_ (p : Program) (e : Env) (below : List Frame) (T : State) (m : MethodId) (pc : Nat) (L : Array Slot) (S : List Value) (t : State) : Prop := Steps p.tables e below (T.setTop (mkF m pc L S)) t
abbrev nm0 : String := "java/util/ImmutableCollections$List12"
abbrev nm1 : String := "java/lang/String"
abbrev nm2 : String := "portcullis/catalog/Scope"
abbrev nm3 : String := "portcullis/catalog/ScopeGrantScopesPinLaw"
abbrev nm4 : String := "Ljava/lang/Object;"
abbrev nm5 : String := "java/lang/StringUTF16"
abbrev nm6 : String := "java/lang/Object"
abbrev nm7 : String := "java/util/List"
abbrev nm8 : String := "java/util/ImmutableCollections$AbstractImmutableCollection"
abbrev nm9 : String := "java/util/ImmutableCollections"
abbrev nm10 : String := "java/util/ImmutableCollections$AbstractImmutableList"
abbrev HW (Z : State) (a0 : Array Value) : Prop := ∀ d ∈ tables_1, d.before a0 Z = true
theorem w0 {Z a0} (hw : HW Z a0) : (Jvm.Cond.methodLink nm3 (26 : Nat) ({ cls := nm3, name := "draw", desc := "(IIII)Ljava/lang/String;" } : Jvm.MethodName)).before a0 Z = true := hw _ (List.mem_of_getElem? (i := 0) rfl)
theorem w1 {Z a0} (hw : HW Z a0) : (Jvm.Cond.static ({ cls := nm3, name := "draw", desc := "(IIII)Ljava/lang/String;" } : Jvm.MethodName)).before a0 Z = true := hw _ (List.mem_of_getElem? (i := 1) rfl)
theorem w2 {Z a0} (hw : HW Z a0) : (Jvm.Cond.initialized nm3).before a0 Z = true := hw _ (List.mem_of_getElem? (i := 2) rfl)
theorem w3 {Z a0} (hw : HW Z a0) : (Jvm.Cond.code ({ cls := nm3, name := "draw", desc := "(IIII)Ljava/lang/String;" } : Jvm.MethodName) method_2_code (7 : Nat) (Option.some (Jvm.ClassFile.FieldType.object nm1))).before a0 Z = true := hw _ (List.mem_of_getElem? (i := 3) rfl)
theorem w4 {Z a0} (hw : HW Z a0) : (Jvm.Cond.classLink nm3 (7 : Nat) nm1).before a0 Z = true := hw _ (List.mem_of_getElem? (i := 4) rfl)
theorem w5 {Z a0} (hw : HW Z a0) : (Jvm.Cond.instantiable nm1 (4 : Nat)).before a0 Z = true := hw _ (List.mem_of_getElem? (i := 5) rfl)
theorem w6 {Z a0} (hw : HW Z a0) : (Jvm.Cond.initialized nm1).before a0 Z = true := hw _ (List.mem_of_getElem? (i := 6) rfl)
theorem w7 {Z a0} (hw : HW Z a0) : (Jvm.Cond.arrayClass Jvm.ClassFile.FieldType.char).before a0 Z = true := hw _ (List.mem_of_getElem? (i := 7) rfl)
theorem w8 {Z a0} (hw : HW Z a0) : (Jvm.Cond.methodLink nm3 (9 : Nat) ({ cls := nm1, name := "<init>", desc := "([C)V" } : Jvm.MethodName)).before a0 Z = true := hw _ (List.mem_of_getElem? (i := 8) rfl)
theorem w9 {Z a0} (hw : HW Z a0) : (Jvm.Cond.instanceMethod ({ cls := nm1, name := "<init>", desc := "([C)V" } : Jvm.MethodName)).before a0 Z = true := hw _ (List.mem_of_getElem? (i := 9) rfl)
theorem w10 {Z a0} (hw : HW Z a0) : (Jvm.Cond.code ({ cls := nm1, name := "<init>", desc := "([C)V" } : Jvm.MethodName) jdk_42_method_3_code (2 : Nat) (Option.none : Option Jvm.ClassFile.FieldType)).before a0 Z = true := hw _ (List.mem_of_getElem? (i := 10) rfl)
theorem w11 {Z a0} (hw : HW Z a0) : (Jvm.Cond.methodLink nm1 (27 : Nat) ({ cls := nm1, name := "<init>", desc := "([CIILjava/lang/Void;)V" } : Jvm.MethodName)).before a0 Z = true := hw _ (List.mem_of_getElem? (i := 11) rfl)
theorem w12 {Z a0} (hw : HW Z a0) : (Jvm.Cond.instanceMethod ({ cls := nm1, name := "<init>", desc := "([CIILjava/lang/Void;)V" } : Jvm.MethodName)).before a0 Z = true := hw _ (List.mem_of_getElem? (i := 12) rfl)
theorem w14 {Z a0} (hw : HW Z a0) : (Jvm.Cond.code ({ cls := nm1, name := "<init>", desc := "([CIILjava/lang/Void;)V" } : Jvm.MethodName) jdk_42_method_149_code (6 : Nat) (Option.none : Option Jvm.ClassFile.FieldType)).before a0 Z = true := hw _ (List.mem_of_getElem? (i := 14) rfl)
theorem w15 {Z a0} (hw : HW Z a0) : (Jvm.Cond.methodLink nm1 (1 : Nat) ({ cls := nm6, name := "<init>", desc := "()V" } : Jvm.MethodName)).before a0 Z = true := hw _ (List.mem_of_getElem? (i := 15) rfl)
theorem w16 {Z a0} (hw : HW Z a0) : (Jvm.Cond.instanceMethod ({ cls := nm6, name := "<init>", desc := "()V" } : Jvm.MethodName)).before a0 Z = true := hw _ (List.mem_of_getElem? (i := 16) rfl)
theorem w17 {Z a0} (hw : HW Z a0) : (Jvm.Cond.code ({ cls := nm6, name := "<init>", desc := "()V" } : Jvm.MethodName) object_method_1_code (1 : Nat) (Option.none : Option Jvm.ClassFile.FieldType)).before a0 Z = true := hw _ (List.mem_of_getElem? (i := 17) rfl)
theorem w18 {Z a0} (hw : HW Z a0) : (Jvm.Cond.stringLink nm1 (7 : Nat) "").before a0 Z = true := hw _ (List.mem_of_getElem? (i := 18) rfl)
theorem w19 {Z a0} (hw : HW Z a0) : (Jvm.Cond.arrayClass Jvm.ClassFile.FieldType.byte).before a0 Z = true := hw _ (List.mem_of_getElem? (i := 19) rfl)
theorem w20 {Z a0} (hw : HW Z a0) : (Jvm.Cond.laysFinal nm1 nm1 "value" "[B").before a0 Z = true := hw _ (List.mem_of_getElem? (i := 20) rfl)
theorem w21 {Z a0} (hw : HW Z a0) : (Jvm.Cond.laysFinal nm1 nm1 "coder" "B").before a0 Z = true := hw _ (List.mem_of_getElem? (i := 21) rfl)
theorem w24 {Z a0} (hw : HW Z a0) : (Jvm.Cond.fieldLink nm1 (9 : Nat) nm1 "value" "[B").before a0 Z = true := hw _ (List.mem_of_getElem? (i := 24) rfl)
theorem w25 {Z a0} (hw : HW Z a0) : (Jvm.Cond.fieldLink nm1 (15 : Nat) nm1 "coder" "B").before a0 Z = true := hw _ (List.mem_of_getElem? (i := 25) rfl)
theorem w26 {Z a0} (hw : HW Z a0) : (Jvm.Cond.classLink nm3 (13 : Nat) nm2).before a0 Z = true := hw _ (List.mem_of_getElem? (i := 26) rfl)
theorem w27 {Z a0} (hw : HW Z a0) : (Jvm.Cond.instantiable nm2 (1 : Nat)).before a0 Z = true := hw _ (List.mem_of_getElem? (i := 27) rfl)
theorem w28 {Z a0} (hw : HW Z a0) : (Jvm.Cond.initialized nm2).before a0 Z = true := hw _ (List.mem_of_getElem? (i := 28) rfl)
theorem w29 {Z a0} (hw : HW Z a0) : (Jvm.Cond.methodLink nm3 (32 : Nat) ({ cls := nm2, name := "<init>", desc := "(Ljava/lang/String;)V" } : Jvm.MethodName)).before a0 Z = true := hw _ (List.mem_of_getElem? (i := 29) rfl)
theorem w30 {Z a0} (hw : HW Z a0) : (Jvm.Cond.instanceMethod ({ cls := nm2, name := "<init>", desc := "(Ljava/lang/String;)V" } : Jvm.MethodName)).before a0 Z = true := hw _ (List.mem_of_getElem? (i := 30) rfl)
theorem w31 {Z a0} (hw : HW Z a0) : (Jvm.Cond.code ({ cls := nm2, name := "<init>", desc := "(Ljava/lang/String;)V" } : Jvm.MethodName) prog_6_method_1_code (2 : Nat) (Option.none : Option Jvm.ClassFile.FieldType)).before a0 Z = true := hw _ (List.mem_of_getElem? (i := 31) rfl)
theorem w32 {Z a0} (hw : HW Z a0) : (Jvm.Cond.methodLink nm2 (1 : Nat) ({ cls := "java/lang/Record", name := "<init>", desc := "()V" } : Jvm.MethodName)).before a0 Z = true := hw _ (List.mem_of_getElem? (i := 32) rfl)
theorem w33 {Z a0} (hw : HW Z a0) : (Jvm.Cond.instanceMethod ({ cls := "java/lang/Record", name := "<init>", desc := "()V" } : Jvm.MethodName)).before a0 Z = true := hw _ (List.mem_of_getElem? (i := 33) rfl)
theorem w35 {Z a0} (hw : HW Z a0) : (Jvm.Cond.initialized "java/lang/Record").before a0 Z = true := hw _ (List.mem_of_getElem? (i := 35) rfl)
theorem w36 {Z a0} (hw : HW Z a0) : (Jvm.Cond.code ({ cls := "java/lang/Record", name := "<init>", desc := "()V" } : Jvm.MethodName) jdk_30_method_1_code (1 : Nat) (Option.none : Option Jvm.ClassFile.FieldType)).before a0 Z = true := hw _ (List.mem_of_getElem? (i := 36) rfl)
theorem w37 {Z a0} (hw : HW Z a0) : (Jvm.Cond.methodLink "java/lang/Record" (1 : Nat) ({ cls := nm6, name := "<init>", desc := "()V" } : Jvm.MethodName)).before a0 Z = true := hw _ (List.mem_of_getElem? (i := 37) rfl)
theorem w38 {Z a0} (hw : HW Z a0) : (Jvm.Cond.fieldLink nm2 (7 : Nat) nm2 "container" "Ljava/lang/String;").before a0 Z = true := hw _ (List.mem_of_getElem? (i := 38) rfl)
theorem w39 {Z a0} (hw : HW Z a0) : (Jvm.Cond.laysFinal nm2 nm2 "container" "Ljava/lang/String;").before a0 Z = true := hw _ (List.mem_of_getElem? (i := 39) rfl)
theorem w40 {Z a0} (hw : HW Z a0) : (Jvm.Cond.methodLink nm3 (35 : Nat) ({ cls := nm2, name := "grantScopes", desc := "()Ljava/util/List;" } : Jvm.MethodName)).before a0 Z = true := hw _ (List.mem_of_getElem? (i := 40) rfl)
theorem w41 {Z a0} (hw : HW Z a0) : (Jvm.Cond.declares ({ cls := nm2, name := "grantScopes", desc := "()Ljava/util/List;" } : Jvm.MethodName)).before a0 Z = true := hw _ (List.mem_of_getElem? (i := 41) rfl)
theorem w42 {Z a0} (hw : HW Z a0) : (Jvm.Cond.instanceMethod ({ cls := nm2, name := "grantScopes", desc := "()Ljava/util/List;" } : Jvm.MethodName)).before a0 Z = true := hw _ (List.mem_of_getElem? (i := 42) rfl)
theorem w43 {Z a0} (hw : HW Z a0) : (Jvm.Cond.selects nm2 ({ cls := nm2, name := "grantScopes", desc := "()Ljava/util/List;" } : Jvm.MethodName) ({ cls := nm2, name := "grantScopes", desc := "()Ljava/util/List;" } : Jvm.MethodName)).before a0 Z = true := hw _ (List.mem_of_getElem? (i := 43) rfl)
theorem w44 {Z a0} (hw : HW Z a0) : (Jvm.Cond.code ({ cls := nm2, name := "grantScopes", desc := "()Ljava/util/List;" } : Jvm.MethodName) prog_6_method_4_code (1 : Nat) (Option.some (Jvm.ClassFile.FieldType.object nm7))).before a0 Z = true := hw _ (List.mem_of_getElem? (i := 44) rfl)
theorem w45 {Z a0} (hw : HW Z a0) : (Jvm.Cond.methodLink nm2 (25 : Nat) ({ cls := nm2, name := "common", desc := "()Z" } : Jvm.MethodName)).before a0 Z = true := hw _ (List.mem_of_getElem? (i := 45) rfl)
theorem w46 {Z a0} (hw : HW Z a0) : (Jvm.Cond.declares ({ cls := nm2, name := "common", desc := "()Z" } : Jvm.MethodName)).before a0 Z = true := hw _ (List.mem_of_getElem? (i := 46) rfl)
theorem w47 {Z a0} (hw : HW Z a0) : (Jvm.Cond.instanceMethod ({ cls := nm2, name := "common", desc := "()Z" } : Jvm.MethodName)).before a0 Z = true := hw _ (List.mem_of_getElem? (i := 47) rfl)
theorem w48 {Z a0} (hw : HW Z a0) : (Jvm.Cond.selects nm2 ({ cls := nm2, name := "common", desc := "()Z" } : Jvm.MethodName) ({ cls := nm2, name := "common", desc := "()Z" } : Jvm.MethodName)).before a0 Z = true := hw _ (List.mem_of_getElem? (i := 48) rfl)
theorem w49 {Z a0} (hw : HW Z a0) : (Jvm.Cond.code ({ cls := nm2, name := "common", desc := "()Z" } : Jvm.MethodName) prog_6_method_3_code (1 : Nat) (Option.some Jvm.ClassFile.FieldType.boolean)).before a0 Z = true := hw _ (List.mem_of_getElem? (i := 49) rfl)
theorem w50 {Z a0} (hw : HW Z a0) : (Jvm.Cond.fieldLink nm2 (29 : Nat) nm2 "COMMON" "Lportcullis/catalog/Scope;").before a0 Z = true := hw _ (List.mem_of_getElem? (i := 50) rfl)
theorem w51 {Z a0} (hw : HW Z a0) : (Jvm.Cond.laysStatic nm2 "COMMON" "Lportcullis/catalog/Scope;").before a0 Z = true := hw _ (List.mem_of_getElem? (i := 51) rfl)
theorem w52 {Z a0} (hw : HW Z a0) : (Jvm.Cond.methodLink nm2 (39 : Nat) ({ cls := nm7, name := "of", desc := "(Ljava/lang/Object;Ljava/lang/Object;)Ljava/util/List;" } : Jvm.MethodName)).before a0 Z = true := hw _ (List.mem_of_getElem? (i := 52) rfl)
theorem w53 {Z a0} (hw : HW Z a0) : (Jvm.Cond.static ({ cls := nm7, name := "of", desc := "(Ljava/lang/Object;Ljava/lang/Object;)Ljava/util/List;" } : Jvm.MethodName)).before a0 Z = true := hw _ (List.mem_of_getElem? (i := 53) rfl)
theorem w54 {Z a0} (hw : HW Z a0) : (Jvm.Cond.initialized nm7).before a0 Z = true := hw _ (List.mem_of_getElem? (i := 54) rfl)
theorem w55 {Z a0} (hw : HW Z a0) : (Jvm.Cond.code ({ cls := nm7, name := "of", desc := "(Ljava/lang/Object;Ljava/lang/Object;)Ljava/util/List;" } : Jvm.MethodName) jdk_40_method_38_code (2 : Nat) (Option.some (Jvm.ClassFile.FieldType.object nm7))).before a0 Z = true := hw _ (List.mem_of_getElem? (i := 55) rfl)
theorem w56 {Z a0} (hw : HW Z a0) : (Jvm.Cond.classLink nm7 (96 : Nat) nm0).before a0 Z = true := hw _ (List.mem_of_getElem? (i := 56) rfl)
theorem w57 {Z a0} (hw : HW Z a0) : (Jvm.Cond.instantiable nm0 (2 : Nat)).before a0 Z = true := hw _ (List.mem_of_getElem? (i := 57) rfl)
theorem w58 {Z a0} (hw : HW Z a0) : (Jvm.Cond.initialized nm0).before a0 Z = true := hw _ (List.mem_of_getElem? (i := 58) rfl)
theorem w59 {Z a0} (hw : HW Z a0) : (Jvm.Cond.methodLink nm7 (100 : Nat) ({ cls := nm0, name := "<init>", desc := "(Ljava/lang/Object;Ljava/lang/Object;)V" } : Jvm.MethodName)).before a0 Z = true := hw _ (List.mem_of_getElem? (i := 59) rfl)
theorem w60 {Z a0} (hw : HW Z a0) : (Jvm.Cond.instanceMethod ({ cls := nm0, name := "<init>", desc := "(Ljava/lang/Object;Ljava/lang/Object;)V" } : Jvm.MethodName)).before a0 Z = true := hw _ (List.mem_of_getElem? (i := 60) rfl)
theorem w62 {Z a0} (hw : HW Z a0) : (Jvm.Cond.code ({ cls := nm0, name := "<init>", desc := "(Ljava/lang/Object;Ljava/lang/Object;)V" } : Jvm.MethodName) jdk_44_method_2_code (3 : Nat) (Option.none : Option Jvm.ClassFile.FieldType)).before a0 Z = true := hw _ (List.mem_of_getElem? (i := 62) rfl)
theorem w63 {Z a0} (hw : HW Z a0) : (Jvm.Cond.methodLink nm0 (1 : Nat) ({ cls := nm10, name := "<init>", desc := "()V" } : Jvm.MethodName)).before a0 Z = true := hw _ (List.mem_of_getElem? (i := 63) rfl)
theorem w64 {Z a0} (hw : HW Z a0) : (Jvm.Cond.instanceMethod ({ cls := nm10, name := "<init>", desc := "()V" } : Jvm.MethodName)).before a0 Z = true := hw _ (List.mem_of_getElem? (i := 64) rfl)
theorem w67 {Z a0} (hw : HW Z a0) : (Jvm.Cond.initialized nm10).before a0 Z = true := hw _ (List.mem_of_getElem? (i := 67) rfl)
theorem w68 {Z a0} (hw : HW Z a0) : (Jvm.Cond.code ({ cls := nm10, name := "<init>", desc := "()V" } : Jvm.MethodName) jdk_46_method_1_code (1 : Nat) (Option.none : Option Jvm.ClassFile.FieldType)).before a0 Z = true := hw _ (List.mem_of_getElem? (i := 68) rfl)
theorem w69 {Z a0} (hw : HW Z a0) : (Jvm.Cond.methodLink nm10 (1 : Nat) ({ cls := nm8, name := "<init>", desc := "()V" } : Jvm.MethodName)).before a0 Z = true := hw _ (List.mem_of_getElem? (i := 69) rfl)
theorem w70 {Z a0} (hw : HW Z a0) : (Jvm.Cond.instanceMethod ({ cls := nm8, name := "<init>", desc := "()V" } : Jvm.MethodName)).before a0 Z = true := hw _ (List.mem_of_getElem? (i := 70) rfl)
theorem w73 {Z a0} (hw : HW Z a0) : (Jvm.Cond.initialized nm8).before a0 Z = true := hw _ (List.mem_of_getElem? (i := 73) rfl)
theorem w74 {Z a0} (hw : HW Z a0) : (Jvm.Cond.code ({ cls := nm8, name := "<init>", desc := "()V" } : Jvm.MethodName) jdk_47_method_1_code (1 : Nat) (Option.none : Option Jvm.ClassFile.FieldType)).before a0 Z = true := hw _ (List.mem_of_getElem? (i := 74) rfl)
theorem w75 {Z a0} (hw : HW Z a0) : (Jvm.Cond.methodLink nm8 (1 : Nat) ({ cls := "java/util/AbstractCollection", name := "<init>", desc := "()V" } : Jvm.MethodName)).before a0 Z = true := hw _ (List.mem_of_getElem? (i := 75) rfl)
theorem w76 {Z a0} (hw : HW Z a0) : (Jvm.Cond.instanceMethod ({ cls := "java/util/AbstractCollection", name := "<init>", desc := "()V" } : Jvm.MethodName)).before a0 Z = true := hw _ (List.mem_of_getElem? (i := 76) rfl)
theorem w79 {Z a0} (hw : HW Z a0) : (Jvm.Cond.initialized "java/util/AbstractCollection").before a0 Z = true := hw _ (List.mem_of_getElem? (i := 79) rfl)
theorem w80 {Z a0} (hw : HW Z a0) : (Jvm.Cond.code ({ cls := "java/util/AbstractCollection", name := "<init>", desc := "()V" } : Jvm.MethodName) jdk_22_method_1_code (1 : Nat) (Option.none : Option Jvm.ClassFile.FieldType)).before a0 Z = true := hw _ (List.mem_of_getElem? (i := 80) rfl)
theorem w81 {Z a0} (hw : HW Z a0) : (Jvm.Cond.methodLink "java/util/AbstractCollection" (1 : Nat) ({ cls := nm6, name := "<init>", desc := "()V" } : Jvm.MethodName)).before a0 Z = true := hw _ (List.mem_of_getElem? (i := 81) rfl)
theorem w82 {Z a0} (hw : HW Z a0) : (Jvm.Cond.methodLink nm0 (7 : Nat) ({ cls := "java/util/Objects", name := "requireNonNull", desc := "(Ljava/lang/Object;)Ljava/lang/Object;" } : Jvm.MethodName)).before a0 Z = true := hw _ (List.mem_of_getElem? (i := 82) rfl)
theorem w83 {Z a0} (hw : HW Z a0) : (Jvm.Cond.static ({ cls := "java/util/Objects", name := "requireNonNull", desc := "(Ljava/lang/Object;)Ljava/lang/Object;" } : Jvm.MethodName)).before a0 Z = true := hw _ (List.mem_of_getElem? (i := 83) rfl)
theorem w84 {Z a0} (hw : HW Z a0) : (Jvm.Cond.initialized "java/util/Objects").before a0 Z = true := hw _ (List.mem_of_getElem? (i := 84) rfl)
theorem w85 {Z a0} (hw : HW Z a0) : (Jvm.Cond.code ({ cls := "java/util/Objects", name := "requireNonNull", desc := "(Ljava/lang/Object;)Ljava/lang/Object;" } : Jvm.MethodName) jdk_31_method_10_code (1 : Nat) (Option.some (Jvm.ClassFile.FieldType.object nm6))).before a0 Z = true := hw _ (List.mem_of_getElem? (i := 85) rfl)
theorem w86 {Z a0} (hw : HW Z a0) : (Jvm.Cond.fieldLink nm0 (13 : Nat) nm0 "e0" nm4).before a0 Z = true := hw _ (List.mem_of_getElem? (i := 86) rfl)
theorem w87 {Z a0} (hw : HW Z a0) : (Jvm.Cond.laysFinal nm0 nm0 "e0" nm4).before a0 Z = true := hw _ (List.mem_of_getElem? (i := 87) rfl)
theorem w88 {Z a0} (hw : HW Z a0) : (Jvm.Cond.fieldLink nm0 (24 : Nat) nm0 "e1" nm4).before a0 Z = true := hw _ (List.mem_of_getElem? (i := 88) rfl)
theorem w89 {Z a0} (hw : HW Z a0) : (Jvm.Cond.laysFinal nm0 nm0 "e1" nm4).before a0 Z = true := hw _ (List.mem_of_getElem? (i := 89) rfl)
theorem w90 {Z a0} (hw : HW Z a0) : (Jvm.Cond.methodLink nm3 (39 : Nat) ({ cls := nm7, name := "size", desc := "()I" } : Jvm.MethodName)).before a0 Z = true := hw _ (List.mem_of_getElem? (i := 90) rfl)
theorem w91 {Z a0} (hw : HW Z a0) : (Jvm.Cond.declares ({ cls := nm7, name := "size", desc := "()I" } : Jvm.MethodName)).before a0 Z = true := hw _ (List.mem_of_getElem? (i := 91) rfl)
theorem w92 {Z a0} (hw : HW Z a0) : (Jvm.Cond.interfaceMethod nm7 nm7 "size" "()I").before a0 Z = true := hw _ (List.mem_of_getElem? (i := 92) rfl)
theorem w93 {Z a0} (hw : HW Z a0) : (Jvm.Cond.selects nm0 ({ cls := nm7, name := "size", desc := "()I" } : Jvm.MethodName) ({ cls := nm0, name := "size", desc := "()I" } : Jvm.MethodName)).before a0 Z = true := hw _ (List.mem_of_getElem? (i := 93) rfl)
theorem w94 {Z a0} (hw : HW Z a0) : (Jvm.Cond.instanceMethod ({ cls := nm0, name := "size", desc := "()I" } : Jvm.MethodName)).before a0 Z = true := hw _ (List.mem_of_getElem? (i := 94) rfl)
theorem w95 {Z a0} (hw : HW Z a0) : (Jvm.Cond.publicMethod ({ cls := nm0, name := "size", desc := "()I" } : Jvm.MethodName)).before a0 Z = true := hw _ (List.mem_of_getElem? (i := 95) rfl)
theorem w96 {Z a0} (hw : HW Z a0) : (Jvm.Cond.unhidden nm0 "size" "()I").before a0 Z = true := hw _ (List.mem_of_getElem? (i := 96) rfl)
theorem w97 {Z a0} (hw : HW Z a0) : (Jvm.Cond.castable nm0 nm7).before a0 Z = true := hw _ (List.mem_of_getElem? (i := 97) rfl)
theorem w98 {Z a0} (hw : HW Z a0) : (Jvm.Cond.code ({ cls := nm0, name := "size", desc := "()I" } : Jvm.MethodName) jdk_44_method_3_code (1 : Nat) (Option.some Jvm.ClassFile.FieldType.int)).before a0 Z = true := hw _ (List.mem_of_getElem? (i := 98) rfl)
theorem w99 {Z a0} (hw : HW Z a0) : (Jvm.Cond.fieldLinkNest nm0 (19 : Nat) nm9 "EMPTY" nm4 nm9).before a0 Z = true := hw _ (List.mem_of_getElem? (i := 99) rfl)
theorem w101 {Z a0} (hw : HW Z a0) : (Jvm.Cond.methodLink nm3 (45 : Nat) ({ cls := nm7, name := "get", desc := "(I)Ljava/lang/Object;" } : Jvm.MethodName)).before a0 Z = true := hw _ (List.mem_of_getElem? (i := 101) rfl)
theorem w102 {Z a0} (hw : HW Z a0) : (Jvm.Cond.declares ({ cls := nm7, name := "get", desc := "(I)Ljava/lang/Object;" } : Jvm.MethodName)).before a0 Z = true := hw _ (List.mem_of_getElem? (i := 102) rfl)
theorem w103 {Z a0} (hw : HW Z a0) : (Jvm.Cond.interfaceMethod nm7 nm7 "get" "(I)Ljava/lang/Object;").before a0 Z = true := hw _ (List.mem_of_getElem? (i := 103) rfl)
theorem w104 {Z a0} (hw : HW Z a0) : (Jvm.Cond.selects nm0 ({ cls := nm7, name := "get", desc := "(I)Ljava/lang/Object;" } : Jvm.MethodName) ({ cls := nm0, name := "get", desc := "(I)Ljava/lang/Object;" } : Jvm.MethodName)).before a0 Z = true := hw _ (List.mem_of_getElem? (i := 104) rfl)
theorem w105 {Z a0} (hw : HW Z a0) : (Jvm.Cond.instanceMethod ({ cls := nm0, name := "get", desc := "(I)Ljava/lang/Object;" } : Jvm.MethodName)).before a0 Z = true := hw _ (List.mem_of_getElem? (i := 105) rfl)
theorem w106 {Z a0} (hw : HW Z a0) : (Jvm.Cond.publicMethod ({ cls := nm0, name := "get", desc := "(I)Ljava/lang/Object;" } : Jvm.MethodName)).before a0 Z = true := hw _ (List.mem_of_getElem? (i := 106) rfl)
theorem w107 {Z a0} (hw : HW Z a0) : (Jvm.Cond.unhidden nm0 "get" "(I)Ljava/lang/Object;").before a0 Z = true := hw _ (List.mem_of_getElem? (i := 107) rfl)
theorem w108 {Z a0} (hw : HW Z a0) : (Jvm.Cond.code ({ cls := nm0, name := "get", desc := "(I)Ljava/lang/Object;" } : Jvm.MethodName) jdk_44_method_5_code (2 : Nat) (Option.some (Jvm.ClassFile.FieldType.object nm6))).before a0 Z = true := hw _ (List.mem_of_getElem? (i := 108) rfl)
theorem w110 {Z a0} (hw : HW Z a0) : (Jvm.Cond.methodLink nm3 (12 : Nat) ({ cls := nm2, name := "common", desc := "()Z" } : Jvm.MethodName)).before a0 Z = true := hw _ (List.mem_of_getElem? (i := 110) rfl)
theorem w111 {Z a0} (hw : HW Z a0) : (Jvm.Cond.methodLink nm3 (49 : Nat) ({ cls := nm3, name := "isLocalNamed", desc := "(Lportcullis/catalog/Scope;Ljava/lang/String;)Z" } : Jvm.MethodName)).before a0 Z = true := hw _ (List.mem_of_getElem? (i := 111) rfl)
theorem w112 {Z a0} (hw : HW Z a0) : (Jvm.Cond.static ({ cls := nm3, name := "isLocalNamed", desc := "(Lportcullis/catalog/Scope;Ljava/lang/String;)Z" } : Jvm.MethodName)).before a0 Z = true := hw _ (List.mem_of_getElem? (i := 112) rfl)
theorem w113 {Z a0} (hw : HW Z a0) : (Jvm.Cond.code ({ cls := nm3, name := "isLocalNamed", desc := "(Lportcullis/catalog/Scope;Ljava/lang/String;)Z" } : Jvm.MethodName) method_3_code (2 : Nat) (Option.some Jvm.ClassFile.FieldType.boolean)).before a0 Z = true := hw _ (List.mem_of_getElem? (i := 113) rfl)
theorem w114 {Z a0} (hw : HW Z a0) : (Jvm.Cond.methodLink nm3 (18 : Nat) ({ cls := nm2, name := "container", desc := "()Ljava/lang/String;" } : Jvm.MethodName)).before a0 Z = true := hw _ (List.mem_of_getElem? (i := 114) rfl)
theorem w115 {Z a0} (hw : HW Z a0) : (Jvm.Cond.declares ({ cls := nm2, name := "container", desc := "()Ljava/lang/String;" } : Jvm.MethodName)).before a0 Z = true := hw _ (List.mem_of_getElem? (i := 115) rfl)
theorem w116 {Z a0} (hw : HW Z a0) : (Jvm.Cond.instanceMethod ({ cls := nm2, name := "container", desc := "()Ljava/lang/String;" } : Jvm.MethodName)).before a0 Z = true := hw _ (List.mem_of_getElem? (i := 116) rfl)
theorem w117 {Z a0} (hw : HW Z a0) : (Jvm.Cond.selects nm2 ({ cls := nm2, name := "container", desc := "()Ljava/lang/String;" } : Jvm.MethodName) ({ cls := nm2, name := "container", desc := "()Ljava/lang/String;" } : Jvm.MethodName)).before a0 Z = true := hw _ (List.mem_of_getElem? (i := 117) rfl)
theorem w118 {Z a0} (hw : HW Z a0) : (Jvm.Cond.code ({ cls := nm2, name := "container", desc := "()Ljava/lang/String;" } : Jvm.MethodName) prog_6_method_10_code (1 : Nat) (Option.some (Jvm.ClassFile.FieldType.object nm1))).before a0 Z = true := hw _ (List.mem_of_getElem? (i := 118) rfl)
theorem w119 {Z a0} (hw : HW Z a0) : (Jvm.Cond.methodLink nm3 (22 : Nat) ({ cls := nm1, name := "equals", desc := "(Ljava/lang/Object;)Z" } : Jvm.MethodName)).before a0 Z = true := hw _ (List.mem_of_getElem? (i := 119) rfl)
theorem w120 {Z a0} (hw : HW Z a0) : (Jvm.Cond.declares ({ cls := nm1, name := "equals", desc := "(Ljava/lang/Object;)Z" } : Jvm.MethodName)).before a0 Z = true := hw _ (List.mem_of_getElem? (i := 120) rfl)
theorem w121 {Z a0} (hw : HW Z a0) : (Jvm.Cond.instanceMethod ({ cls := nm1, name := "equals", desc := "(Ljava/lang/Object;)Z" } : Jvm.MethodName)).before a0 Z = true := hw _ (List.mem_of_getElem? (i := 121) rfl)
theorem w122 {Z a0} (hw : HW Z a0) : (Jvm.Cond.selects nm1 ({ cls := nm1, name := "equals", desc := "(Ljava/lang/Object;)Z" } : Jvm.MethodName) ({ cls := nm1, name := "equals", desc := "(Ljava/lang/Object;)Z" } : Jvm.MethodName)).before a0 Z = true := hw _ (List.mem_of_getElem? (i := 122) rfl)
theorem w123 {Z a0} (hw : HW Z a0) : (Jvm.Cond.code ({ cls := nm1, name := "equals", desc := "(Ljava/lang/Object;)Z" } : Jvm.MethodName) jdk_42_method_66_code (3 : Nat) (Option.some Jvm.ClassFile.FieldType.boolean)).before a0 Z = true := hw _ (List.mem_of_getElem? (i := 123) rfl)
theorem w124 {Z a0} (hw : HW Z a0) : (Jvm.Cond.fieldLink nm1 (38 : Nat) nm1 "COMPACT_STRINGS" "Z").before a0 Z = true := hw _ (List.mem_of_getElem? (i := 124) rfl)
theorem w125 {Z a0} (hw : HW Z a0) : (Jvm.Cond.methodLink nm1 (177 : Nat) ({ cls := nm5, name := "compress", desc := "([CII)[B" } : Jvm.MethodName)).before a0 Z = true := hw _ (List.mem_of_getElem? (i := 125) rfl)
theorem w126 {Z a0} (hw : HW Z a0) : (Jvm.Cond.static ({ cls := nm5, name := "compress", desc := "([CII)[B" } : Jvm.MethodName)).before a0 Z = true := hw _ (List.mem_of_getElem? (i := 126) rfl)
theorem w127 {Z a0} (hw : HW Z a0) : (Jvm.Cond.initialized nm5).before a0 Z = true := hw _ (List.mem_of_getElem? (i := 127) rfl)
theorem w128 {Z a0} (hw : HW Z a0) : (Jvm.Cond.code ({ cls := nm5, name := "compress", desc := "([CII)[B" } : Jvm.MethodName) jdk_52_method_16_code (6 : Nat) (Option.some (Jvm.ClassFile.FieldType.array Jvm.ClassFile.FieldType.byte))).before a0 Z = true := hw _ (List.mem_of_getElem? (i := 128) rfl)
theorem w129 {Z a0} (hw : HW Z a0) : (Jvm.Cond.methodLink nm5 (115 : Nat) ({ cls := nm5, name := "compress", desc := "([CI[BII)I" } : Jvm.MethodName)).before a0 Z = true := hw _ (List.mem_of_getElem? (i := 129) rfl)
theorem w130 {Z a0} (hw : HW Z a0) : (Jvm.Cond.static ({ cls := nm5, name := "compress", desc := "([CI[BII)I" } : Jvm.MethodName)).before a0 Z = true := hw _ (List.mem_of_getElem? (i := 130) rfl)
theorem w131 {Z a0} (hw : HW Z a0) : (Jvm.Cond.code ({ cls := nm5, name := "compress", desc := "([CI[BII)I" } : Jvm.MethodName) jdk_52_method_21_code (7 : Nat) (Option.some Jvm.ClassFile.FieldType.int)).before a0 Z = true := hw _ (List.mem_of_getElem? (i := 131) rfl)
theorem w132 {Z a0} (hw : HW Z a0) : (Jvm.Cond.methodLink nm1 (47 : Nat) ({ cls := nm5, name := "coderFromArrayLen", desc := "([BI)B" } : Jvm.MethodName)).before a0 Z = true := hw _ (List.mem_of_getElem? (i := 132) rfl)
theorem w133 {Z a0} (hw : HW Z a0) : (Jvm.Cond.static ({ cls := nm5, name := "coderFromArrayLen", desc := "([BI)B" } : Jvm.MethodName)).before a0 Z = true := hw _ (List.mem_of_getElem? (i := 133) rfl)
theorem w134 {Z a0} (hw : HW Z a0) : (Jvm.Cond.code ({ cls := nm5, name := "coderFromArrayLen", desc := "([BI)B" } : Jvm.MethodName) jdk_52_method_15_code (2 : Nat) (Option.some Jvm.ClassFile.FieldType.byte)).before a0 Z = true := hw _ (List.mem_of_getElem? (i := 134) rfl)
theorem w135 {Z a0} (hw : HW Z a0) : (Jvm.Cond.methodLink nm2 (33 : Nat) ({ cls := nm7, name := "of", desc := "(Ljava/lang/Object;)Ljava/util/List;" } : Jvm.MethodName)).before a0 Z = true := hw _ (List.mem_of_getElem? (i := 135) rfl)
theorem w136 {Z a0} (hw : HW Z a0) : (Jvm.Cond.static ({ cls := nm7, name := "of", desc := "(Ljava/lang/Object;)Ljava/util/List;" } : Jvm.MethodName)).before a0 Z = true := hw _ (List.mem_of_getElem? (i := 136) rfl)
theorem w137 {Z a0} (hw : HW Z a0) : (Jvm.Cond.code ({ cls := nm7, name := "of", desc := "(Ljava/lang/Object;)Ljava/util/List;" } : Jvm.MethodName) jdk_40_method_37_code (1 : Nat) (Option.some (Jvm.ClassFile.FieldType.object nm7))).before a0 Z = true := hw _ (List.mem_of_getElem? (i := 137) rfl)
theorem w138 {Z a0} (hw : HW Z a0) : (Jvm.Cond.methodLink nm7 (98 : Nat) ({ cls := nm0, name := "<init>", desc := "(Ljava/lang/Object;)V" } : Jvm.MethodName)).before a0 Z = true := hw _ (List.mem_of_getElem? (i := 138) rfl)
theorem w139 {Z a0} (hw : HW Z a0) : (Jvm.Cond.instanceMethod ({ cls := nm0, name := "<init>", desc := "(Ljava/lang/Object;)V" } : Jvm.MethodName)).before a0 Z = true := hw _ (List.mem_of_getElem? (i := 139) rfl)
theorem w140 {Z a0} (hw : HW Z a0) : (Jvm.Cond.code ({ cls := nm0, name := "<init>", desc := "(Ljava/lang/Object;)V" } : Jvm.MethodName) jdk_44_method_1_code (2 : Nat) (Option.none : Option Jvm.ClassFile.FieldType)).before a0 Z = true := hw _ (List.mem_of_getElem? (i := 140) rfl)
theorem own_in : ∀ a ∈ Bundle.stringAtoms, a ∈ tables_1 := by decide +kernel
theorem own_atoms {Z : State} {a0 : Array Value} (hw : HW Z a0) : ∀ a ∈ Bundle.stringAtoms, a.before a0 Z = true := fun a ha => hw a (own_in a ha)
section KW
variable {p : Program} {l : Launch} {e : Env} {R : Room} {s : State} {vm0 : Vm} {m : MethodId} {args : Array Value} {below : List Frame} {meth : Method} {c : Code} {T : State} {locs : List Loc} {cells slots : Nat} {Z : State} {a0 : Array Value} {h : Heap} {st0 : State} {g : JFrame} {y : MethodName} {bytes : ByteArray} {ml : Nat} {rt : Option FieldType} {rm : Room} {as' : Array Value} {Q : Option Value → Heap → List Loc → Prop}
theorem kstatB (X : Stand p l e R (s.setVm vm0) m args below meth c T locs cells slots) (hx : p.tables.exec = Jvm.exec) (hZ : Z.Warmed39 vm0) {own : String} {index : Nat} (hown : vm0.findClass own = some m.cls) {k0 : Nat} (hS : s.Since vm0 k0) (hk : k0 ≤ h.size) (w1 : (Jvm.Cond.methodLink own index y).before a0 Z = true) (w2 : (Jvm.Cond.static y).before a0 Z = true) (w3 : (Jvm.Cond.initialized y.cls).before a0 Z = true) (w4 : (Jvm.Cond.code y bytes ml rt).before a0 Z = true) {W : Nat} (hB : BackS l R p e below (s.setVm vm0) args y 3 W (fun A a => a = as' ∧ A.U.heap = h ∧ A.cells + rm.cells ≤ R.cells ∧ A.slots + rm.slots ≤ R.slots) (fun A _ v B => ∃ L, Q v B.U.heap L ∧ B.locs = A.locs ++ L ∧ B.cells = A.cells + rm.cells ∧ B.slots = A.slots + rm.slots)) (eT : T.heap = h) (k : Kt p e below T st0 g) {M : Nat} (hml : c.maxLocals = M) {ps : List FieldType} {r : Option FieldType} (pd : parseMethodDescriptor y.desc = some ⟨ps, r⟩) (argsL rest : List Value) (hd : decode c.code g.pc = .ok (.invokestatic index, 3))
  (hg : g.method = m) (hsize : g.locals.size = M) (hln : argsL.length = ps.length) (hst : g.stack = argsL.reverse ++ rest) (ha : argsL.toArray = as') (hW : 2 * g.monitorRoom + (rest.map fun v => v.category).sum = W) (hy : y.cls ≠ "java/lang/invoke/MethodHandle" ∧ y.cls ≠ "java/lang/invoke/VarHandle" := by decide) (hc : cells + rm.cells ≤ R.cells := by decide) (hs : slots + rm.slots ≤ R.slots := by decide) :
  ∃ v T' L', Stand p l e R (s.setVm T'.vm) m args below meth c T' (locs ++ L') (cells + rm.cells) (slots + rm.slots) ∧ Q v T'.heap L' ∧ s.Since T'.vm T'.heap.size ∧ Z.Warmed39 T'.vm ∧ T'.vm.findClass own = some m.cls ∧ Kt p e below T' st0 { g with pc := g.pc + 3, stack := v.toList ++ rest } := by
 obtain ⟨v, _, ⟨T', L, k', n'⟩, -, X', hS', hg', ⟨Lc, hQ, e1, e2, e3⟩, st⟩ := callSS X hx hown (mvT (s := s.setVm vm0) hZ w1) (mvT (s := s.setVm vm0) hZ w2) (mvT (s := s.setVm vm0) hZ w3) (mvT (s := s.setVm vm0) hZ w4) hy hB hg (hsize.trans hml.symm) (argsL := argsL) (rest := rest) (lenOf pd hln) hst (Nat.le_of_eq hW) hd (fun _ _ => ⟨ha, eT, hc, hs⟩)
 dsimp only [Pt.U, Pt.locs, Pt.cells, Pt.slots] at X' hS' hg' e1 e2 e3 st hQ
 subst e1 e2 e3
 obtain ⟨X2, hS2, hZ2, ho2⟩ := rebS hS (by rw [eT]; exact hk) X' hS' hg' hZ hown
 exact ⟨v, T', Lc, X2, hQ, hS2, hZ2, ho2, fun t q => k t (st.trans q)⟩
theorem kspecB (X : Stand p l e R (s.setVm vm0) m args below meth c T locs cells slots) (hx : p.tables.exec = Jvm.exec) (hZ : Z.Warmed39 vm0) {own : String} {index : Nat} (hown : vm0.findClass own = some m.cls) {k0 : Nat} (hS : s.Since vm0 k0) (hk : k0 ≤ h.size) (w1 : (Jvm.Cond.methodLink own index y).before a0 Z = true) (w2 : (Jvm.Cond.instanceMethod y).before a0 Z = true) (w4 : (Jvm.Cond.code y bytes ml none).before a0 Z = true) {W : Nat} (hB : BackS l R p e below (s.setVm vm0) args y 3 W (fun A a => a = as' ∧ A.U.heap = h ∧ A.cells + rm.cells ≤ R.cells ∧ A.slots + rm.slots ≤ R.slots) (fun A _ v B => ∃ L, Q v B.U.heap L ∧ B.locs = A.locs ++ L ∧ B.cells = A.cells + rm.cells ∧ B.slots = A.slots + rm.slots)) (eT : T.heap = h) (k : Kt p e below T st0 g) {M : Nat} (hml : c.maxLocals = M) {ps : List FieldType} {r : Option FieldType} (pd : parseMethodDescriptor y.desc = some ⟨ps, r⟩) (a : Addr) (argsL rest : List Value) (hd : decode c.code g.pc = .ok (.invokespecial index, 3))
  (hg : g.method = m) (hsize : g.locals.size = M) (hln : argsL.length = ps.length) (hst : g.stack = argsL.reverse ++ .ref a :: rest) (ha : (Value.ref a :: argsL).toArray = as') (hW : 2 * g.monitorRoom + (rest.map fun v => v.category).sum = W) (hy1 : y.name = "<init>" := by rfl) (hy : y.cls ≠ "java/lang/invoke/MethodHandle" ∧ y.cls ≠ "java/lang/invoke/VarHandle" := by decide) (hc : cells + rm.cells ≤ R.cells := by decide) (hs : slots + rm.slots ≤ R.slots := by decide) :
  ∃ v T' L', Stand p l e R (s.setVm T'.vm) m args below meth c T' (locs ++ L') (cells + rm.cells) (slots + rm.slots) ∧ Q v T'.heap L' ∧ s.Since T'.vm T'.heap.size ∧ Z.Warmed39 T'.vm ∧ T'.vm.findClass own = some m.cls ∧ Kt p e below T' st0 { g with pc := g.pc + 3, stack := v.toList ++ rest } := by
 obtain ⟨v, _, ⟨T', L, k', n'⟩, -, X', hS', hg', ⟨Lc, hQ, e1, e2, e3⟩, st⟩ := X.specialBackS hx hy1 hown (mvT (s := s.setVm vm0) hZ w1) (mvT (s := s.setVm vm0) hZ w2) (mvT (s := s.setVm vm0) hZ w4) hy hB hg (hsize.trans hml.symm) (Steps.refl _) (a := a) (argsL := argsL) (rest := rest) (lenOf pd hln) hst (Nat.le_of_eq hW) hd (fun _ _ => ⟨ha, eT, hc, hs⟩)
 dsimp only [Pt.U, Pt.locs, Pt.cells, Pt.slots] at X' hS' hg' e1 e2 e3 st hQ
 subst e1 e2 e3
 obtain ⟨X2, hS2, hZ2, ho2⟩ := rebS hS (by rw [eT]; exact hk) X' hS' hg' hZ hown
 exact ⟨v, T', Lc, X2, hQ, hS2, hZ2, ho2, fun t q => k t (st.trans q)⟩
theorem kldc (X : Stand p l e R (s.setVm vm0) m args below meth c T locs cells slots) (hx : p.tables.exec = Jvm.exec) (hZ : Z.Warmed39 vm0) {own text : String} {index : Nat} (hown : vm0.findClass own = some m.cls) {k0 : Nat} (hS : s.Since vm0 k0) (hk : k0 ≤ h.size) (w : (Jvm.Cond.stringLink own index text).before a0 Z = true) (wS : ∀ a ∈ Bundle.stringAtoms, a.before a0 Z = true) (eT : T.heap = h) (k : Kt p e below T st0 g) (n : Nat) (hd : decode c.code g.pc = .ok (.ldc index, 2)) (hg : g.method = m) (hn : 4 * text.toList.length ≤ n) (hbig : n ≤ 536870912) (hc : cells + 2 ≤ R.cells) (hl : slots + (n + 4) ≤ R.slots) {n0 : Nat} (O0 : Old Z n0 h) :
  ∃ (a : Addr) (T' : State) (h' : Heap) (k1 : Nat), Stand p l e R (s.setVm T'.vm) m args below meth c T' locs (cells + 2) (slots + (n + 4)) ∧ T'.heap = h' ∧ Ext h h' ∧ Old Z n0 h' ∧ s.Since T'.vm k1 ∧ k1 ≤ h'.size ∧ Z.Warmed39 T'.vm ∧ T'.vm.findClass own = some m.cls ∧ Kt p e below T' st0 { g with pc := g.pc + 2, stack := .ref a :: g.stack } := by
 obtain ⟨a, T', h', k1, X', e', E, hS', hk', hZ', ho', st⟩ := ldcS X hx hZ hown w wS eT hS hk hg hd hn hbig hc hl
 exact ⟨a, T', h', k1, X', e', E, O0.ext E, hS', hk', hZ', ho', fun t q => k t (st t q)⟩
theorem kldcV (X : Stand p l e R (s.setVm s.vm) m args below meth c T [] cells slots) (hx : p.tables.exec = Jvm.exec) (hZ : Z.Warmed39 s.vm) {own text : String} {index : Nat} (hown : s.vm.findClass own = some m.cls) (w : (Jvm.Cond.stringLink own index text).before a0 Z = true) (wS : ∀ a ∈ Bundle.stringAtoms, a.before a0 Z = true) (eT : T.heap = h) (k : Kt p e below T st0 g) (n : Nat) (hd : decode c.code g.pc = .ok (.ldc index, 2)) (hg : g.method = m) {h0 : Heap} (hh : s.heap = h0) {n0 : Nat} (Oh : Old Z n0 h0) (hI : s.vm.interned = Z.vm.interned) (hlit : Jvm.Lit.constHeld Z own index) (hcw : Jvm.Lit.compactW.before a0 Z = true) {vs : List Value} {z : Int32} (ht : (∀ c ∈ text.toList, c.toNat < 256) ∧ text.toList.map (fun c => Value.int (Jvm.Lit.byteI c.toNat.toUInt16)) = vs) (hz : ¬ z < 0) (hl : z.toNatClampNeg = vs.length) (hn : 4 * text.toList.length ≤ n) (hbig : n ≤ 536870912) (hc : cells + 2 ≤ R.cells) (hl' : slots + (n + 4) ≤ R.slots) (O0 : Old Z n0 h) :
  ∃ (a : Addr) (T' : State) (h' : Heap) (k1 : Nat) (b : Addr) (kb : ClassId), Stand p l e R (s.setVm T'.vm) m args below meth c T' [] (cells + 2) (slots + (n + 4)) ∧ T'.heap = h' ∧ Ext h h' ∧ Old Z n0 h' ∧ s.Since T'.vm k1 ∧ k1 ≤ h'.size ∧ Z.Warmed39 T'.vm ∧ T'.vm.findClass own = some m.cls ∧ Exa Z h' a nm1 ∧ Fld Z h' a nm1 "coder" "B" (.int 0) ∧ Fld Z h' a nm1 "value" "[B" (rr b) ∧ Arv Z h' b kb .byte z vs (.int 0) ∧ Lit (s.setVm T'.vm) own index a ∧ Kt p e below T' st0 { g with pc := g.pc + 2, stack := .ref a :: g.stack } := by
 have hib : IB Z s.vm [] := ⟨#[], by rw [hI]; simp, fun q hq => by simp at hq⟩
 obtain ⟨a, T', h', k1, b, kb, X', e', E, hS', hk', hZ', ho', f1, f2, f3, f4, -, -, -, L, st⟩ := ldcSVL X hx hZ hown w wS eT ((State.WarmedH.refl s).since 0) (Nat.zero_le _) (Fr.nil _) (fun b cl q => by rw [hh]; exact Oh.2.2 b cl q) hib (by simp) hlit hcw ht hz hl hg hd hn hbig hc hl'
 exact ⟨a, T', h', k1, b, kb, X', e', E, O0.ext E, hS', hk', hZ', ho', f1, f2, f3, f4, L, fun t q => k t (st t q)⟩
theorem backOfSI {len W : Nat}
  (hM : MFI l Z y bytes ml rt rm [] as' h Q) (hZ : Z.Warmed39 vm0) (hI : vm0.interned = Z.vm.interned) (wc : (Jvm.Cond.code y bytes ml rt).before a0 Z = true) (wz : (Jvm.Cond.initialized y.cls).before a0 Z = true) (hf : rm.frames + 1 ≤ R.frames) (hl : W + (ml + 11) + rm.locals ≤ R.locals) :
  BackS l R p e below (s.setVm vm0) args y len W (fun A a => a = as' ∧ A.U.heap = h ∧ A.cells + rm.cells ≤ R.cells ∧ A.slots + rm.slots ≤ R.slots)
   (fun A _ v B => ∃ L, Q v B.U.heap L ∧ B.locs = A.locs ++ L ∧ B.cells = A.cells + rm.cells ∧ B.slots = A.slots + rm.slots) :=
 BackS.of_freeW (bytes := bytes) (maxL := ml) (ret := rt) (E := fun _ _ o t L k n => k = rm.cells ∧ n = rm.slots ∧ ∃ v, o = .returned v ∧ Q v t.heap L) hM hf hl
  (fun m meth c A a Y hp => have hU : Z.Warmed39 A.U.vm := wtrans (s := s.setVm vm0) hZ Y.warmed
   ⟨by show (Jvm.Cond.and _ .tt).before a A.U = true; rw [Jvm.Cond.before_and, mv hU wc]; rfl, mv hU wc, mv hU wz, hp.2.2.1, hp.2.2.2⟩)
  (fun m meth c A a g mk Y hp => ⟨hp.1, wtrans (s := s.setVm vm0) hZ Y.warmed, hp.2.1, Y.warmed.interned_eq.trans hI⟩) (fun _ _ _ _ _ _ _ _ _ => trivial)
  (fun _ _ _ _ ⟨v, L, h1, h2, h3⟩ => ⟨L, _, _, h3, rfl, rfl, v, h1, h2⟩)
  (fun m meth c A a g mk v t L k n Y hp _ _ ⟨e1, e2, v', e3, e4⟩ => by cases e3; subst e1 e2; exact ⟨L, e4, rfl, rfl, rfl⟩)
end KW
theorem pn_java_lang_StringUTF16 : plainName nm5 = true := by first | (simp [plainName, overriddenIn]; done) | decide +kernel
theorem d0_0 : decode jdk_52_method_21_code 0 = .ok (.iconst 0, 1) := by decide +kernel
theorem d0_1 : decode jdk_52_method_21_code 1 = .ok (.istore 5, 2) := by decide +kernel
theorem d0_3 : decode jdk_52_method_21_code 3 = .ok (.iload 5, 2) := by decide +kernel
theorem d0_5 : decode jdk_52_method_21_code 5 = .ok (.iload 4, 2) := by decide +kernel
theorem d0_7 : decode jdk_52_method_21_code 7 = .ok (.if_icmp .ge 37, 3) := by decide +kernel
theorem d0_10 : decode jdk_52_method_21_code 10 = .ok (.aload_n 0, 1) := by decide +kernel
theorem d0_11 : decode jdk_52_method_21_code 11 = .ok (.iload_n 1, 1) := by decide +kernel
theorem d0_12 : decode jdk_52_method_21_code 12 = .ok (.caload, 1) := by decide +kernel
theorem d0_13 : decode jdk_52_method_21_code 13 = .ok (.istore 6, 2) := by decide +kernel
theorem d0_15 : decode jdk_52_method_21_code 15 = .ok (.iload 6, 2) := by decide +kernel
theorem d0_17 : decode jdk_52_method_21_code 17 = .ok (.sipush 255, 3) := by decide +kernel
theorem d0_20 : decode jdk_52_method_21_code 20 = .ok (.if_icmp .le 6, 3) := by decide +kernel
theorem d0_26 : decode jdk_52_method_21_code 26 = .ok (.aload_n 2, 1) := by decide +kernel
theorem d0_27 : decode jdk_52_method_21_code 27 = .ok (.iload_n 3, 1) := by decide +kernel
theorem d0_28 : decode jdk_52_method_21_code 28 = .ok (.iload 6, 2) := by decide +kernel
theorem d0_30 : decode jdk_52_method_21_code 30 = .ok (.i2b, 1) := by decide +kernel
theorem d0_31 : decode jdk_52_method_21_code 31 = .ok (.bastore, 1) := by decide +kernel
theorem d0_32 : decode jdk_52_method_21_code 32 = .ok (.iinc 1 1, 3) := by decide +kernel
theorem d0_35 : decode jdk_52_method_21_code 35 = .ok (.iinc 3 1, 3) := by decide +kernel
theorem d0_38 : decode jdk_52_method_21_code 38 = .ok (.iinc 5 1, 3) := by decide +kernel
theorem d0_41 : decode jdk_52_method_21_code 41 = .ok (.goto (-38), 3) := by decide +kernel
theorem d0_44 : decode jdk_52_method_21_code 44 = .ok (.iload 4, 2) := by decide +kernel
theorem d0_46 : decode jdk_52_method_21_code 46 = .ok (.ireturn, 1) := by decide +kernel
theorem ef_cmp5_1 (m : MethodId) (s_ : Addr) (d_ : Addr) : entryFrame m #[(rr s_), (ii 0), (rr d_), (ii 0), (ii 1)] 7 = mkF m 0 #[vr s_, vi 0, vr d_, vi 0, vi 1, u_, u_] [] := by first | (simp [entryFrame, mkF, argsToLocals, Value.category]; done) | rfl
def Q_cmp5_1 (Z : State) (s_ : Addr) (ks_ : ClassId) (d_ : Addr) (kd_ : ClassId) (c0_ : Int32) (h0 : Heap) (n0 : Nat) (v : Option Value) (h : Heap) (L : List Loc) : Prop := v = some (ii 1) ∧ Fr n0 L ∧ Keep h0 h [d_] ∧ Arv Z h d_ kd_ .byte (1 : Int32) [(.int (nar .byte (c0_.toInt8.toInt32)))] (ii 0)
set_option maxRecDepth 65536 in
set_option maxHeartbeats 40000000 in
theorem rm_cmp5_1 (l : Launch) (Z : State) (a0 : Array Value) (hw : HW Z a0) (ws : List Jvm.Cond) (s_ : Addr) (ks_ : ClassId) (d_ : Addr) (kd_ : ClassId) (c0_ : Int32) (h0 : Heap) (n0 : Nat) (O0 : Old Z n0 h0) (A0_ : Arv Z h0 s_ ks_ .char (1 : Int32) [(.int c0_)] (ii 0)) (A1_ : Arv Z h0 d_ kd_ .byte (1 : Int32) [(ii 0)] (ii 0)) (G2_ : n0 ≤ d_) (NE3_ : s_ ≠ d_) (hs0_ : ¬ ((255 : Int32) < c0_)) :
  MFP l Z (⟨nm5, "compress", "([CI[BII)I"⟩ : MethodName) jdk_52_method_21_code 7 (some .int) ({ frames := 0, cells := 0, slots := 0, locals := 0 } : Room) ws #[(rr s_), (ii 0), (rr d_), (ii 0), (ii 1)] h0 (Q_cmp5_1 Z s_ ks_ d_ kd_ c0_ h0 n0) := by
 refine MetFree.of_bodySF (plainFor_of_name pn_java_lang_StringUTF16) hisR ?_
 intro p e s m args below meth c s₁ Bd hml0 hP hK
 obtain ⟨rfl, hZ, hh⟩ := hP
 have hx := Bd.exec
 have hby := Bd.bytes
 have hml : c.maxLocals = 7 := hml0
 have hown : s.vm.findClass nm5 = some m.cls := findClass_of_methodNamed Bd.named
 have hnm := (name_of_methodNamed Bd.named Bd.method).1
 have X0 : Stand p l e ({ frames := 0, cells := 0, slots := 0, locals := 0 } : Room) s m #[(rr s_), (ii 0), (rr d_), (ii 0), (ii 1)] below meth c s₁ [] 0 0 := Stand.of_body Bd
 have e0 : s₁.heap = h0 := by rw [← hh, Bd.state]; rfl
 have N0 := Fr.nil n0
 have kp0 : Keep h0 h0 [d_] := Keep.refl _ _
 have c0 : ∀ t, S_ p e below s₁ m 0 #[vr s_, vi 0, vr d_, vi 0, vi 1, u_, u_] [] t → Steps p.tables e below (s₁.setTop (entryFrame m #[(rr s_), (ii 0), (rr d_), (ii 0), (ii 1)] 7)) t := fun t k => castTop (ef_cmp5_1 m s_ d_) k
 generalize s₁.setTop (entryFrame m #[(rr s_), (ii 0), (rr d_), (ii 0), (ii 1)] 7) = st0 at c0 ⊢
 replace c0 : Kt p e below s₁ st0 (mkF m 0 #[vr s_, vi 0, vr d_, vi 0, vi 1, u_, u_] []) := c0
 have c1 : Kt p e below s₁ st0 (mkF m 31 #[vr s_, vi 0, vr d_, vi 0, vi 1, vi 0, vi c0_] [(.int (c0_.toInt8.toInt32)), (ii 0), (rr d_)]) := fun t k => by
  refine c0 t ?_
  show S_ p e below s₁ m 0 #[vr s_, vi 0, vr d_, vi 0, vi 1, u_, u_] [] t
  refine XS.iconst X0.here hx rfl (hb hby d0_0) ?_
  show S_ p e below s₁ m 1 #[vr s_, vi 0, vr d_, vi 0, vi 1, u_, u_] [(ii 0)] t
  refine XS.istore X0.here hx rfl (hb hby d0_1) rfl (l' := #[vr s_, vi 0, vr d_, vi 0, vi 1, vi 0, u_]) rfl ?_
  show S_ p e below s₁ m 3 #[vr s_, vi 0, vr d_, vi 0, vi 1, vi 0, u_] [] t
  refine XS.iload X0.here hx rfl (hb hby d0_3) rfl ?_
  show S_ p e below s₁ m 5 #[vr s_, vi 0, vr d_, vi 0, vi 1, vi 0, u_] [(ii 0)] t
  refine XS.iload X0.here hx rfl (hb hby d0_5) rfl ?_
  show S_ p e below s₁ m 7 #[vr s_, vi 0, vr d_, vi 0, vi 1, vi 0, u_] [(ii 1), (ii 0)] t
  refine XS.icmpNo X0.here hx rfl (hb hby d0_7) rfl rfl ?_
  show S_ p e below s₁ m 10 #[vr s_, vi 0, vr d_, vi 0, vi 1, vi 0, u_] [] t
  refine XS.aloadN X0.here hx rfl (hb hby d0_10) rfl rfl ?_
  show S_ p e below s₁ m 11 #[vr s_, vi 0, vr d_, vi 0, vi 1, vi 0, u_] [(rr s_)] t
  refine XS.iloadN X0.here hx rfl (hb hby d0_11) rfl ?_
  show S_ p e below s₁ m 12 #[vr s_, vi 0, vr d_, vi 0, vi 1, vi 0, u_] [(ii 0), (rr s_)] t
  refine ldC X0 hx hZ e0 A0_ (v := (.int c0_)) (by decide) (by decide) rfl rfl rfl (hb hby d0_12) ?_
  show S_ p e below s₁ m 13 #[vr s_, vi 0, vr d_, vi 0, vi 1, vi 0, u_] [(.int c0_)] t
  refine XS.istore X0.here hx rfl (hb hby d0_13) rfl (l' := #[vr s_, vi 0, vr d_, vi 0, vi 1, vi 0, vi c0_]) rfl ?_
  show S_ p e below s₁ m 15 #[vr s_, vi 0, vr d_, vi 0, vi 1, vi 0, vi c0_] [] t
  refine XS.iload X0.here hx rfl (hb hby d0_15) rfl ?_
  show S_ p e below s₁ m 17 #[vr s_, vi 0, vr d_, vi 0, vi 1, vi 0, vi c0_] [(.int c0_)] t
  refine XS.sipush X0.here hx rfl (hb hby d0_17) ?_
  show S_ p e below s₁ m 20 #[vr s_, vi 0, vr d_, vi 0, vi 1, vi 0, vi c0_] [(ii 255), (.int c0_)] t
  refine yC X0.here hx rfl 20 26 rfl (hb hby d0_20) rfl (flt hs0_).2.2.2 ?_
  show S_ p e below s₁ m 26 #[vr s_, vi 0, vr d_, vi 0, vi 1, vi 0, vi c0_] [] t
  refine XS.aloadN X0.here hx rfl (hb hby d0_26) rfl rfl ?_
  show S_ p e below s₁ m 27 #[vr s_, vi 0, vr d_, vi 0, vi 1, vi 0, vi c0_] [(rr d_)] t
  refine XS.iloadN X0.here hx rfl (hb hby d0_27) rfl ?_
  show S_ p e below s₁ m 28 #[vr s_, vi 0, vr d_, vi 0, vi 1, vi 0, vi c0_] [(ii 0), (rr d_)] t
  refine XS.iload X0.here hx rfl (hb hby d0_28) rfl ?_
  show S_ p e below s₁ m 30 #[vr s_, vi 0, vr d_, vi 0, vi 1, vi 0, vi c0_] [(.int c0_), (ii 0), (rr d_)] t
  refine XS.i2b X0.here hx rfl (hb hby d0_30) rfl ?_
  exact k
 obtain ⟨T2, h2, X2, e2, W2, f5, o3, N4, c2⟩ := kstB X0 hx hZ e0 A1_ (j := (0 : Int32)) (by decide) (by decide) 0 rfl (Nat.le_of_ble_eq_true rfl) c1 rfl rfl (hb hby d0_31) O0 N0 G2_
 have f6 : Arv Z h2 d_ kd_ .byte (1 : Int32) [(.int (nar .byte (c0_.toInt8.toInt32)))] (ii 0) := f5
 have kp7 := kp0.wr W2 (Or.inl (List.mem_of_getElem? (i := 0) rfl))
 obtain ⟨fs, hr, hrun, hended, hW, hsame⟩ := X2.leave (v := some (ii 1)) (fun h => by rw [Bd.returns] at h; cases h)
 refine ⟨_, _, c2 _ ?_, hrun, hended, _, _, rfl, ?_, ⟨_, rfl⟩, hW, hsame.mono (by decide) (by decide)⟩
 ·show S_ p e below T2 m 32 #[vr s_, vi 0, vr d_, vi 0, vi 1, vi 0, vi c0_] [] _
  refine XS.iinc X2.here hx rfl (hb hby d0_32) rfl (l' := #[vr s_, vi 1, vr d_, vi 0, vi 1, vi 0, vi c0_]) rfl ?_
  show S_ p e below T2 m 35 #[vr s_, vi 1, vr d_, vi 0, vi 1, vi 0, vi c0_] [] _
  refine XS.iinc X2.here hx rfl (hb hby d0_35) rfl (l' := #[vr s_, vi 1, vr d_, vi 1, vi 1, vi 0, vi c0_]) rfl ?_
  show S_ p e below T2 m 38 #[vr s_, vi 1, vr d_, vi 1, vi 1, vi 0, vi c0_] [] _
  refine XS.iinc X2.here hx rfl (hb hby d0_38) rfl (l' := #[vr s_, vi 1, vr d_, vi 1, vi 1, vi 1, vi c0_]) rfl ?_
  show S_ p e below T2 m 41 #[vr s_, vi 1, vr d_, vi 1, vi 1, vi 1, vi c0_] [] _
  refine yG X2.here hx rfl 41 3 rfl (hb hby d0_41) ?_
  show S_ p e below T2 m 3 #[vr s_, vi 1, vr d_, vi 1, vi 1, vi 1, vi c0_] [] _
  refine XS.iload X2.here hx rfl (hb hby d0_3) rfl ?_
  show S_ p e below T2 m 5 #[vr s_, vi 1, vr d_, vi 1, vi 1, vi 1, vi c0_] [(ii 1)] _
  refine XS.iload X2.here hx rfl (hb hby d0_5) rfl ?_
  show S_ p e below T2 m 7 #[vr s_, vi 1, vr d_, vi 1, vi 1, vi 1, vi c0_] [(ii 1), (ii 1)] _
  refine yC X2.here hx rfl 7 44 rfl (hb hby d0_7) rfl rfl ?_
  show S_ p e below T2 m 44 #[vr s_, vi 1, vr d_, vi 1, vi 1, vi 1, vi c0_] [] _
  refine XS.iload X2.here hx rfl (hb hby d0_44) rfl ?_
  show S_ p e below T2 m 46 #[vr s_, vi 1, vr d_, vi 1, vi 1, vi 1, vi c0_] [(ii 1)] _
  exact retOut X2 hx Bd.returns rfl (Or.inl ⟨rfl, Or.inl rfl, _, rfl⟩) (hb hby d0_46) hr
 ·show Q_cmp5_1 Z s_ ks_ d_ kd_ c0_ h0 n0 _ T2.heap _
  rw [e2]
  exact ⟨rfl, N4, kp7, f6⟩
theorem d1_0 : decode jdk_52_method_16_code 0 = .ok (.iload_n 2, 1) := by decide +kernel
theorem d1_1 : decode jdk_52_method_16_code 1 = .ok (.newarray .byte, 2) := by decide +kernel
theorem d1_3 : decode jdk_52_method_16_code 3 = .ok (.astore_n 3, 1) := by decide +kernel
theorem d1_4 : decode jdk_52_method_16_code 4 = .ok (.aload_n 0, 1) := by decide +kernel
theorem d1_5 : decode jdk_52_method_16_code 5 = .ok (.iload_n 1, 1) := by decide +kernel
theorem d1_6 : decode jdk_52_method_16_code 6 = .ok (.aload_n 3, 1) := by decide +kernel
theorem d1_7 : decode jdk_52_method_16_code 7 = .ok (.iconst 0, 1) := by decide +kernel
theorem d1_8 : decode jdk_52_method_16_code 8 = .ok (.iload_n 2, 1) := by decide +kernel
theorem d1_9 : decode jdk_52_method_16_code 9 = .ok (.invokestatic 115, 3) := by decide +kernel
theorem pd_pACIABIIrI : parseMethodDescriptor "([CI[BII)I" = some ⟨[(.array .char), .int, (.array .byte), .int, .int], some .int⟩ := by decide +kernel
theorem d1_12 : decode jdk_52_method_16_code 12 = .ok (.istore 4, 2) := by decide +kernel
theorem d1_14 : decode jdk_52_method_16_code 14 = .ok (.iload 4, 2) := by decide +kernel
theorem d1_16 : decode jdk_52_method_16_code 16 = .ok (.iload_n 2, 1) := by decide +kernel
theorem d1_17 : decode jdk_52_method_16_code 17 = .ok (.if_icmp .eq 40, 3) := by decide +kernel
theorem d1_57 : decode jdk_52_method_16_code 57 = .ok (.aload_n 3, 1) := by decide +kernel
theorem d1_58 : decode jdk_52_method_16_code 58 = .ok (.areturn, 1) := by decide +kernel
theorem ef_cmp3_1 (m : MethodId) (s_ : Addr) : entryFrame m #[(rr s_), (ii 0), (ii 1)] 6 = mkF m 0 #[vr s_, vi 0, vi 1, u_, u_, u_] [] := by first | (simp [entryFrame, mkF, argsToLocals, Value.category]; done) | rfl
def Q_cmp3_1 (Z : State) (s_ : Addr) (ks_ : ClassId) (c0_ : Int32) (h0 : Heap) (n0 : Nat) (v : Option Value) (h : Heap) (L : List Loc) : Prop := ∃ (b_ : Addr), ∃ (kb_ : ClassId), v = some (rr b_) ∧ Fr n0 L ∧ Keep h0 h [] ∧ Arv Z h b_ kb_ .byte (1 : Int32) [(.int (nar .byte (c0_.toInt8.toInt32)))] (ii 0) ∧ n0 ≤ b_ ∧ h0.size ≤ b_
set_option maxRecDepth 65536 in
set_option maxHeartbeats 40000000 in
theorem rm_cmp3_1 (l : Launch) (Z : State) (a0 : Array Value) (hw : HW Z a0) (ws : List Jvm.Cond) (s_ : Addr) (ks_ : ClassId) (c0_ : Int32) (h0 : Heap) (n0 : Nat) (O0 : Old Z n0 h0) (A0_ : Arv Z h0 s_ ks_ .char (1 : Int32) [(.int c0_)] (ii 0)) (hs0_ : ¬ ((255 : Int32) < c0_)) :
  MFP l Z (⟨nm5, "compress", "([CII)[B"⟩ : MethodName) jdk_52_method_16_code 6 (some (.array .byte)) ({ frames := 1, cells := 1, slots := 1, locals := 18 } : Room) ws #[(rr s_), (ii 0), (ii 1)] h0 (Q_cmp3_1 Z s_ ks_ c0_ h0 n0) := by
 refine MetFree.of_bodySF (plainFor_of_name pn_java_lang_StringUTF16) hisR ?_
 intro p e s m args below meth c s₁ Bd hml0 hP hK
 obtain ⟨rfl, hZ, hh⟩ := hP
 have hx := Bd.exec
 have hby := Bd.bytes
 have hml : c.maxLocals = 6 := hml0
 have hown : s.vm.findClass nm5 = some m.cls := findClass_of_methodNamed Bd.named
 have hnm := (name_of_methodNamed Bd.named Bd.method).1
 have X0 : Stand p l e ({ frames := 1, cells := 1, slots := 1, locals := 18 } : Room) s m #[(rr s_), (ii 0), (ii 1)] below meth c s₁ [] 0 0 := Stand.of_body Bd
 have e0 : s₁.heap = h0 := by rw [← hh, Bd.state]; rfl
 have N0 := Fr.nil n0
 have kp0 : Keep h0 h0 [] := Keep.refl _ _
 have c0 : ∀ t, S_ p e below s₁ m 0 #[vr s_, vi 0, vi 1, u_, u_, u_] [] t → Steps p.tables e below (s₁.setTop (entryFrame m #[(rr s_), (ii 0), (ii 1)] 6)) t := fun t k => castTop (ef_cmp3_1 m s_) k
 generalize s₁.setTop (entryFrame m #[(rr s_), (ii 0), (ii 1)] 6) = st0 at c0 ⊢
 replace c0 : Kt p e below s₁ st0 (mkF m 0 #[vr s_, vi 0, vi 1, u_, u_, u_] []) := c0
 have c1 : Kt p e below s₁ st0 (mkF m 1 #[vr s_, vi 0, vi 1, u_, u_, u_] [(ii 1)]) := fun t k => by
  refine c0 t ?_
  show S_ p e below s₁ m 0 #[vr s_, vi 0, vi 1, u_, u_, u_] [] t
  refine XS.iloadN X0.here hx rfl (hb hby d1_0) rfl ?_
  exact k
 obtain ⟨b2, T2, h2, k2, z2, g2, X2, e2, E2, o3, A2, c2⟩ := knewP (aty := .byte) X0 hx hZ (w19 hw) e0 c1 rfl (hb hby d1_1) rfl (by decide) 1 (by decide) (by decide) (by decide) (by decide) O0
 have kp5 := kp0.ext E2
 have z6 := Nat.le_trans kp0.1 z2
 have f4 : Arv Z h2 b2 k2 .byte (1 : Int32) [(ii 0)] (ii 0) := A2.pad (pad_rep [] (ii 0) 1)
 have q7 := Nat.ne_of_lt (Nat.lt_of_lt_of_le A0_.lt z2)
 have c8 : Kt p e below T2 st0 (mkF m 9 #[vr s_, vi 0, vi 1, vr b2, u_, u_] [(ii 1), (ii 0), (rr b2), (ii 0), (rr s_)]) := fun t k => by
  refine c2 t ?_
  show S_ p e below T2 m 3 #[vr s_, vi 0, vi 1, u_, u_, u_] [(rr b2)] t
  refine XS.astoreN X2.here hx rfl (hb hby d1_3) rfl rfl (l' := #[vr s_, vi 0, vi 1, vr b2, u_, u_]) rfl ?_
  show S_ p e below T2 m 4 #[vr s_, vi 0, vi 1, vr b2, u_, u_] [] t
  refine XS.aloadN X2.here hx rfl (hb hby d1_4) rfl rfl ?_
  show S_ p e below T2 m 5 #[vr s_, vi 0, vi 1, vr b2, u_, u_] [(rr s_)] t
  refine XS.iloadN X2.here hx rfl (hb hby d1_5) rfl ?_
  show S_ p e below T2 m 6 #[vr s_, vi 0, vi 1, vr b2, u_, u_] [(ii 0), (rr s_)] t
  refine XS.aloadN X2.here hx rfl (hb hby d1_6) rfl rfl ?_
  show S_ p e below T2 m 7 #[vr s_, vi 0, vi 1, vr b2, u_, u_] [(rr b2), (ii 0), (rr s_)] t
  refine XS.iconst X2.here hx rfl (hb hby d1_7) ?_
  show S_ p e below T2 m 8 #[vr s_, vi 0, vi 1, vr b2, u_, u_] [(ii 0), (rr b2), (ii 0), (rr s_)] t
  refine XS.iloadN X2.here hx rfl (hb hby d1_8) rfl ?_
  exact k
 obtain ⟨_, T9, L9, X9, hQ9, c9⟩ := kstat X2 hx hZ hown (w129 hw) (w130 hw) (w127 hw) (w131 hw) (rm_cmp5_1 l Z a0 hw [] s_ ks_ b2 k2 c0_ h2 n0 o3 (A0_.ext E2) f4 g2 q7 hs0_) e2 c8 hml pd_pACIABIIrI [(rr s_), (ii 0), (rr b2), (ii 0), (ii 1)] [] 0 (hb hby d1_9) rfl rfl rfl rfl rfl rfl
 obtain ⟨rfl, N10q, K11, p12⟩ := hQ9
 have N10 := Fr.app N0 N10q
 have o13 := o3.keep K11 (allS g2 all0)
 have kp14 := kp5.trans K11 (allS (Or.inr z6) all0)
 obtain ⟨fs, hr, hrun, hended, hW, hsame⟩ := X9.leave (v := some (rr b2)) (fun h => by rw [Bd.returns] at h; cases h)
 refine ⟨_, _, c9 _ ?_, hrun, hended, _, _, rfl, ?_, ⟨_, rfl⟩, hW, hsame.mono (by decide) (by decide)⟩
 ·show S_ p e below T9 m 12 #[vr s_, vi 0, vi 1, vr b2, u_, u_] [(ii 1)] _
  refine XS.istore X9.here hx rfl (hb hby d1_12) rfl (l' := #[vr s_, vi 0, vi 1, vr b2, vi 1, u_]) rfl ?_
  show S_ p e below T9 m 14 #[vr s_, vi 0, vi 1, vr b2, vi 1, u_] [] _
  refine XS.iload X9.here hx rfl (hb hby d1_14) rfl ?_
  show S_ p e below T9 m 16 #[vr s_, vi 0, vi 1, vr b2, vi 1, u_] [(ii 1)] _
  refine XS.iloadN X9.here hx rfl (hb hby d1_16) rfl ?_
  show S_ p e below T9 m 17 #[vr s_, vi 0, vi 1, vr b2, vi 1, u_] [(ii 1), (ii 1)] _
  refine yC X9.here hx rfl 17 57 rfl (hb hby d1_17) rfl rfl ?_
  show S_ p e below T9 m 57 #[vr s_, vi 0, vi 1, vr b2, vi 1, u_] [] _
  refine XS.aloadN X9.here hx rfl (hb hby d1_57) rfl rfl ?_
  show S_ p e below T9 m 58 #[vr s_, vi 0, vi 1, vr b2, vi 1, u_] [(rr b2)] _
  exact retOut X9 hx Bd.returns rfl (Or.inr (Or.inr (Or.inr (Or.inr ⟨rfl, rfl, rfl⟩)))) (hb hby d1_58) hr
 ·show Q_cmp3_1 Z s_ ks_ c0_ h0 n0 _ T9.heap _
  exact ⟨b2, k2, rfl, N10, kp14, p12, g2, z6⟩
theorem d2_0 : decode jdk_52_method_15_code 0 = .ok (.iload_n 1, 1) := by decide +kernel
theorem d2_1 : decode jdk_52_method_15_code 1 = .ok (.aload_n 0, 1) := by decide +kernel
theorem d2_2 : decode jdk_52_method_15_code 2 = .ok (.arraylength, 1) := by decide +kernel
theorem d2_3 : decode jdk_52_method_15_code 3 = .ok (.isub, 1) := by decide +kernel
theorem d2_4 : decode jdk_52_method_15_code 4 = .ok (.bipush 31, 2) := by decide +kernel
theorem d2_6 : decode jdk_52_method_15_code 6 = .ok (.iushr, 1) := by decide +kernel
theorem d2_7 : decode jdk_52_method_15_code 7 = .ok (.i2b, 1) := by decide +kernel
theorem d2_8 : decode jdk_52_method_15_code 8 = .ok (.ireturn, 1) := by decide +kernel
theorem ef_codl_1 (m : MethodId) (s_ : Addr) : entryFrame m #[(rr s_), (ii 1)] 2 = mkF m 0 #[vr s_, vi 1] [] := by first | (simp [entryFrame, mkF, argsToLocals, Value.category]; done) | rfl
def Q_codl_1 (Z : State) (s_ : Addr) (ks_ : ClassId) (vs_ : List Value) (h0 : Heap) (n0 : Nat) (v : Option Value) (h : Heap) (L : List Loc) : Prop := v = some (ii 0) ∧ Fr n0 L ∧ h = h0
set_option maxRecDepth 65536 in
set_option maxHeartbeats 40000000 in
theorem rm_codl_1 (l : Launch) (Z : State) (a0 : Array Value) (hw : HW Z a0) (ws : List Jvm.Cond) (s_ : Addr) (ks_ : ClassId) (vs_ : List Value) (h0 : Heap) (n0 : Nat) (O0 : Old Z n0 h0) (A0_ : Arv Z h0 s_ ks_ .byte (1 : Int32) vs_ (ii 0)) :
  MFP l Z (⟨nm5, "coderFromArrayLen", "([BI)B"⟩ : MethodName) jdk_52_method_15_code 2 (some .byte) ({ frames := 0, cells := 0, slots := 0, locals := 0 } : Room) ws #[(rr s_), (ii 1)] h0 (Q_codl_1 Z s_ ks_ vs_ h0 n0) := by
 refine MetFree.of_bodySF (plainFor_of_name pn_java_lang_StringUTF16) hisR ?_
 intro p e s m args below meth c s₁ Bd hml0 hP hK
 obtain ⟨rfl, hZ, hh⟩ := hP
 have hx := Bd.exec
 have hby := Bd.bytes
 have hml : c.maxLocals = 2 := hml0
 have hown : s.vm.findClass nm5 = some m.cls := findClass_of_methodNamed Bd.named
 have hnm := (name_of_methodNamed Bd.named Bd.method).1
 have X0 : Stand p l e ({ frames := 0, cells := 0, slots := 0, locals := 0 } : Room) s m #[(rr s_), (ii 1)] below meth c s₁ [] 0 0 := Stand.of_body Bd
 have e0 : s₁.heap = h0 := by rw [← hh, Bd.state]; rfl
 have N0 := Fr.nil n0
 have kp0 : Keep h0 h0 [] := Keep.refl _ _
 have c0 : ∀ t, S_ p e below s₁ m 0 #[vr s_, vi 1] [] t → Steps p.tables e below (s₁.setTop (entryFrame m #[(rr s_), (ii 1)] 2)) t := fun t k => castTop (ef_codl_1 m s_) k
 generalize s₁.setTop (entryFrame m #[(rr s_), (ii 1)] 2) = st0 at c0 ⊢
 replace c0 : Kt p e below s₁ st0 (mkF m 0 #[vr s_, vi 1] []) := c0
 obtain ⟨fs, hr, hrun, hended, hW, hsame⟩ := X0.leave (v := some (ii 0)) (fun h => by rw [Bd.returns] at h; cases h)
 refine ⟨_, _, c0 _ ?_, hrun, hended, _, _, rfl, ?_, ⟨_, rfl⟩, hW, hsame.mono (by decide) (by decide)⟩
 ·show S_ p e below s₁ m 0 #[vr s_, vi 1] [] _
  refine XS.iloadN X0.here hx rfl (hb hby d2_0) rfl ?_
  show S_ p e below s₁ m 1 #[vr s_, vi 1] [(ii 1)] _
  refine XS.aloadN X0.here hx rfl (hb hby d2_1) rfl rfl ?_
  show S_ p e below s₁ m 2 #[vr s_, vi 1] [(rr s_), (ii 1)] _
  refine ldLen X0 hx hZ e0 A0_ rfl rfl (hb hby d2_2) ?_
  show S_ p e below s₁ m 3 #[vr s_, vi 1] [(ii 1), (ii 1)] _
  refine XS.isub X0.here hx rfl (hb hby d2_3) rfl ?_
  show S_ p e below s₁ m 4 #[vr s_, vi 1] [(ii 0)] _
  refine XS.bipush X0.here hx rfl (hb hby d2_4) ?_
  show S_ p e below s₁ m 6 #[vr s_, vi 1] [(ii 31), (ii 0)] _
  refine XS.iushr X0.here hx rfl (hb hby d2_6) rfl ?_
  show S_ p e below s₁ m 7 #[vr s_, vi 1] [(ii 0)] _
  refine XS.i2b X0.here hx rfl (hb hby d2_7) rfl ?_
  show S_ p e below s₁ m 8 #[vr s_, vi 1] [(ii 0)] _
  exact retN X0 hx (t := .byte) Bd.returns (by simp) (hb hby d2_8) hr
 ·show Q_codl_1 Z s_ ks_ vs_ h0 n0 _ s₁.heap _
  rw [e0]
  exact ⟨rfl, N0, rfl⟩
theorem pn_java_lang_String : plainName nm1 = true := by first | (simp [plainName, overriddenIn]; done) | decide +kernel
theorem d3_0 : decode jdk_42_method_149_code 0 = .ok (.aload_n 0, 1) := by decide +kernel
theorem d3_1 : decode jdk_42_method_149_code 1 = .ok (.invokespecial 1, 3) := by decide +kernel
theorem d3_4 : decode jdk_42_method_149_code 4 = .ok (.iload_n 3, 1) := by decide +kernel
theorem d3_5 : decode jdk_42_method_149_code 5 = .ok (.ifCond .ne 22, 3) := by decide +kernel
theorem d3_27 : decode jdk_42_method_149_code 27 = .ok (.getstatic 38, 3) := by decide +kernel
theorem d3_30 : decode jdk_42_method_149_code 30 = .ok (.ifCond .eq 28, 3) := by decide +kernel
theorem d3_33 : decode jdk_42_method_149_code 33 = .ok (.aload_n 1, 1) := by decide +kernel
theorem d3_34 : decode jdk_42_method_149_code 34 = .ok (.iload_n 2, 1) := by decide +kernel
theorem d3_35 : decode jdk_42_method_149_code 35 = .ok (.iload_n 3, 1) := by decide +kernel
theorem d3_36 : decode jdk_42_method_149_code 36 = .ok (.invokestatic 177, 3) := by decide +kernel
theorem pd_pACIIrAB : parseMethodDescriptor "([CII)[B" = some ⟨[(.array .char), .int, .int], some (.array .byte)⟩ := by decide +kernel
theorem d3_39 : decode jdk_42_method_149_code 39 = .ok (.astore 5, 2) := by decide +kernel
theorem d3_41 : decode jdk_42_method_149_code 41 = .ok (.aload_n 0, 1) := by decide +kernel
theorem d3_42 : decode jdk_42_method_149_code 42 = .ok (.aload 5, 2) := by decide +kernel
theorem d3_44 : decode jdk_42_method_149_code 44 = .ok (.iload_n 3, 1) := by decide +kernel
theorem d3_45 : decode jdk_42_method_149_code 45 = .ok (.invokestatic 47, 3) := by decide +kernel
theorem pd_pABIrB : parseMethodDescriptor "([BI)B" = some ⟨[(.array .byte), .int], some .byte⟩ := by decide +kernel
theorem d3_48 : decode jdk_42_method_149_code 48 = .ok (.putfield 15, 3) := by decide +kernel
theorem d3_51 : decode jdk_42_method_149_code 51 = .ok (.aload_n 0, 1) := by decide +kernel
theorem d3_52 : decode jdk_42_method_149_code 52 = .ok (.aload 5, 2) := by decide +kernel
theorem d3_54 : decode jdk_42_method_149_code 54 = .ok (.putfield 9, 3) := by decide +kernel
theorem d3_57 : decode jdk_42_method_149_code 57 = .ok (.return_, 1) := by decide +kernel
theorem ef_str4_1 (m : MethodId) (x_ : Addr) (s_ : Addr) : entryFrame m #[(rr x_), (rr s_), (ii 0), (ii 1), .null] 6 = mkF m 0 #[vr x_, vr s_, vi 0, vi 1, .val .null, u_] [] := by first | (simp [entryFrame, mkF, argsToLocals, Value.category]; done) | rfl
def Q_str4_1 (Z : State) (x_ : Addr) (s_ : Addr) (ks_ : ClassId) (z_ : Int32) (c0_ : Int32) (h0 : Heap) (n0 : Nat) (v : Option Value) (h : Heap) (L : List Loc) : Prop := v = none ∧ Fr n0 L ∧ Keep h0 h [x_] ∧ Exa Z h x_ nm1 ∧ Fld Z h x_ nm1 "coder" "B" (ii 0) ∧ ∃ (b_ : Addr), ∃ (kb_ : ClassId), Fld Z h x_ nm1 "value" "[B" (rr b_) ∧ Arv Z h b_ kb_ .byte (1 : Int32) [(.int (nar .byte (c0_.toInt8.toInt32)))] (ii 0) ∧ n0 ≤ b_ ∧ h0.size ≤ b_
set_option maxRecDepth 65536 in
set_option maxHeartbeats 40000000 in
theorem rm_str4_1 (l : Launch) (Z : State) (a0 : Array Value) (hw : HW Z a0) (ws : List Jvm.Cond) (x_ : Addr) (s_ : Addr) (ks_ : ClassId) (z_ : Int32) (c0_ : Int32) (h0 : Heap) (n0 : Nat) (O0 : Old Z n0 h0) (E0_ : Exa Z h0 x_ nm1) (F1_ : Fld Z h0 x_ nm1 "value" "[B" .null) (F2_ : Fld Z h0 x_ nm1 "coder" "B" (ii 0)) (G3_ : n0 ≤ x_) (A4_ : Arv Z h0 s_ ks_ .char (1 : Int32) [(.int c0_)] (ii 0)) (ZS5_ : Sta Z Z.heap nm1 "COMPACT_STRINGS" "Z" (.int z_)) (hz_ : ¬ (z_ = (0 : Int32))) (hs0_ : ¬ ((255 : Int32) < c0_)) :
  MFP l Z (⟨nm1, "<init>", "([CIILjava/lang/Void;)V"⟩ : MethodName) jdk_42_method_149_code 6 none ({ frames := 2, cells := 1, slots := 1, locals := 35 } : Room) ws #[(rr x_), (rr s_), (ii 0), (ii 1), .null] h0 (Q_str4_1 Z x_ s_ ks_ z_ c0_ h0 n0) := by
 refine MetFree.of_bodySF (plainFor_of_name pn_java_lang_String) hisR ?_
 intro p e s m args below meth c s₁ Bd hml0 hP hK
 obtain ⟨rfl, hZ, hh⟩ := hP
 have hx := Bd.exec
 have hby := Bd.bytes
 have hml : c.maxLocals = 6 := hml0
 have hown : s.vm.findClass nm1 = some m.cls := findClass_of_methodNamed Bd.named
 have hnm := (name_of_methodNamed Bd.named Bd.method).1
 have X0 : Stand p l e ({ frames := 2, cells := 1, slots := 1, locals := 35 } : Room) s m #[(rr x_), (rr s_), (ii 0), (ii 1), .null] below meth c s₁ [] 0 0 := Stand.of_body Bd
 have e0 : s₁.heap = h0 := by rw [← hh, Bd.state]; rfl
 have N0 := Fr.nil n0
 have kp0 : Keep h0 h0 [x_] := Keep.refl _ _
 have c0 : ∀ t, S_ p e below s₁ m 0 #[vr x_, vr s_, vi 0, vi 1, .val .null, u_] [] t → Steps p.tables e below (s₁.setTop (entryFrame m #[(rr x_), (rr s_), (ii 0), (ii 1), .null] 6)) t := fun t k => castTop (ef_str4_1 m x_ s_) k
 generalize s₁.setTop (entryFrame m #[(rr x_), (rr s_), (ii 0), (ii 1), .null] 6) = st0 at c0 ⊢
 replace c0 : Kt p e below s₁ st0 (mkF m 0 #[vr x_, vr s_, vi 0, vi 1, .val .null, u_] []) := c0
 have c1 : Kt p e below s₁ st0 (mkF m 1 #[vr x_, vr s_, vi 0, vi 1, .val .null, u_] [(rr x_)]) := fun t k => by
  refine c0 t ?_
  show S_ p e below s₁ m 0 #[vr x_, vr s_, vi 0, vi 1, .val .null, u_] [] t
  refine XS.aloadN X0.here hx rfl (hb hby d3_0) rfl rfl ?_
  exact k
 obtain ⟨T2, X2, e2, c2⟩ := kinit X0 hx hZ hown (w15 hw) (w16 hw) (w17 hw) e0 c1 rfl hml rfl rfl (hb hby d3_1) 0 (own_w rfl) (by decide) (by decide)
 have c3 : Kt p e below T2 st0 (mkF m 27 #[vr x_, vr s_, vi 0, vi 1, .val .null, u_] []) := fun t k => by
  refine c2 t ?_
  show S_ p e below T2 m 4 #[vr x_, vr s_, vi 0, vi 1, .val .null, u_] [] t
  refine XS.iloadN X2.here hx rfl (hb hby d3_4) rfl ?_
  show S_ p e below T2 m 5 #[vr x_, vr s_, vi 0, vi 1, .val .null, u_] [(ii 1)] t
  refine yI X2.here hx rfl 5 27 rfl (hb hby d3_5) rfl rfl ?_
  exact k
 obtain ⟨T4, X4, e4, c4⟩ := kgetS X2 hx hZ hown (host := "") (Or.inl (w124 hw)) Via.refl e2 (ZS5_.ext O0.2) c3 rfl (hb hby d3_27)
 have c5 : Kt p e below T4 st0 (mkF m 36 #[vr x_, vr s_, vi 0, vi 1, .val .null, u_] [(ii 1), (ii 0), (rr s_)]) := fun t k => by
  refine c4 t ?_
  show S_ p e below T4 m 30 #[vr x_, vr s_, vi 0, vi 1, .val .null, u_] [(.int z_)] t
  refine XS.ifNo X4.here hx rfl (hb hby d3_30) rfl ((if0 _ _).trans (feq hz_).1) ?_
  show S_ p e below T4 m 33 #[vr x_, vr s_, vi 0, vi 1, .val .null, u_] [] t
  refine XS.aloadN X4.here hx rfl (hb hby d3_33) rfl rfl ?_
  show S_ p e below T4 m 34 #[vr x_, vr s_, vi 0, vi 1, .val .null, u_] [(rr s_)] t
  refine XS.iloadN X4.here hx rfl (hb hby d3_34) rfl ?_
  show S_ p e below T4 m 35 #[vr x_, vr s_, vi 0, vi 1, .val .null, u_] [(ii 0), (rr s_)] t
  refine XS.iloadN X4.here hx rfl (hb hby d3_35) rfl ?_
  exact k
 obtain ⟨_, T6, L6, X6, hQ6, c6⟩ := kstat X4 hx hZ hown (w125 hw) (w126 hw) (w127 hw) (w128 hw) (rm_cmp3_1 l Z a0 hw [] s_ ks_ c0_ h0 n0 O0 A4_ hs0_) e4 c5 hml pd_pACIIrAB [(rr s_), (ii 0), (ii 1)] [] 0 (hb hby d3_36) rfl rfl rfl rfl rfl rfl
 obtain ⟨b7, k8, rfl, N9q, K10, p11, p12, p13⟩ := hQ6
 have N9 := Fr.app N0 N9q
 have o14 := O0.keep K10 all0
 have kp15 := kp0.trans K10 all0
 have z16 := Nat.le_trans kp0.1 p13
 have g17 := Nat.le_trans (Nat.le_trans (Nat.le_of_eq O0.1.symm) O0.2.1) p13
 have c18 : Kt p e below T6 st0 (mkF m 45 #[vr x_, vr s_, vi 0, vi 1, .val .null, vr b7] [(ii 1), (rr b7), (rr x_)]) := fun t k => by
  refine c6 t ?_
  show S_ p e below T6 m 39 #[vr x_, vr s_, vi 0, vi 1, .val .null, u_] [(rr b7)] t
  refine XS.astore X6.here hx rfl (hb hby d3_39) rfl rfl (l' := #[vr x_, vr s_, vi 0, vi 1, .val .null, vr b7]) rfl ?_
  show S_ p e below T6 m 41 #[vr x_, vr s_, vi 0, vi 1, .val .null, vr b7] [] t
  refine XS.aloadN X6.here hx rfl (hb hby d3_41) rfl rfl ?_
  show S_ p e below T6 m 42 #[vr x_, vr s_, vi 0, vi 1, .val .null, vr b7] [(rr x_)] t
  refine XS.aload X6.here hx rfl (hb hby d3_42) rfl rfl ?_
  show S_ p e below T6 m 44 #[vr x_, vr s_, vi 0, vi 1, .val .null, vr b7] [(rr b7), (rr x_)] t
  refine XS.iloadN X6.here hx rfl (hb hby d3_44) rfl ?_
  exact k
 obtain ⟨_, T19, L19, X19, hQ19, c19⟩ := kstat X6 hx hZ hown (w132 hw) (w133 hw) (w127 hw) (w134 hw) (rm_codl_1 l Z a0 hw [] b7 k8 [(.int (nar .byte (c0_.toInt8.toInt32)))] T6.heap n0 o14 p11) rfl c18 hml pd_pABIrB [(rr b7), (ii 1)] [(rr x_)] 1 (hb hby d3_45) rfl rfl rfl rfl rfl rfl
 obtain ⟨rfl, N20q, K21⟩ := hQ19
 have N20 := Fr.app N9 N20q
 obtain ⟨T22, h22, X22, e22, W22, f23, o25, N24, c22⟩ := kput X19 hx hZ .byte hown (host := "") (Or.inl (w25 hw)) Via.refl K21 (F2_.keep K10 nin0) (E0_.keep K10) (Or.inr ⟨(w21 hw), rfl, hnm⟩) (w5 hw) c19 rfl rfl (hb hby d3_48) (by decide) rfl rfl o14 N20 G3_
 have kp26 := kp15.wr W22 (Or.inl (List.mem_of_getElem? (i := 0) rfl))
 have f27 := (F1_.keep K10 nin0).other W22 (Or.inr (slot_ne (Or.inr (w20 hw)) (Or.inr (w21 hw)) (by decide) (t := (.array .byte)) (t' := .byte) (by decide) (by decide)))
 have c28 : Kt p e below T22 st0 (mkF m 54 #[vr x_, vr s_, vi 0, vi 1, .val .null, vr b7] [(rr b7), (rr x_)]) := fun t k => by
  refine c22 t ?_
  show S_ p e below T22 m 51 #[vr x_, vr s_, vi 0, vi 1, .val .null, vr b7] [] t
  refine XS.aloadN X22.here hx rfl (hb hby d3_51) rfl rfl ?_
  show S_ p e below T22 m 52 #[vr x_, vr s_, vi 0, vi 1, .val .null, vr b7] [(rr x_)] t
  refine XS.aload X22.here hx rfl (hb hby d3_52) rfl rfl ?_
  exact k
 obtain ⟨T29, h29, X29, e29, W29, f30, o32, N31, c29⟩ := kput X22 hx hZ (.array .byte) hown (host := "") (Or.inl (w24 hw)) Via.refl e22 f27 ((E0_.keep K10).wr W22) (Or.inr ⟨(w20 hw), rfl, hnm⟩) (w5 hw) c28 rfl rfl (hb hby d3_54) (by decide) rfl rfl o25 N24 G3_
 have kp33 := kp26.wr W29 (Or.inl (List.mem_of_getElem? (i := 0) rfl))
 have f34 := f23.other W29 (Or.inr (slot_ne (Or.inr (w21 hw)) (Or.inr (w20 hw)) (by decide) (t := .byte) (t' := (.array .byte)) (by decide) (by decide)))
 have q35 := Ne.symm (Nat.ne_of_lt (Nat.lt_of_lt_of_le E0_.lt p13))
 obtain ⟨fs, hr, hrun, hended, hW, hsame⟩ := X29.leave (v := none) (fun _ => rfl)
 refine ⟨_, _, c29 _ ?_, hrun, hended, _, _, rfl, ?_, ⟨_, rfl⟩, hW, hsame.mono (by decide) (by decide)⟩
 ·show S_ p e below T29 m 57 #[vr x_, vr s_, vi 0, vi 1, .val .null, vr b7] [] _
  exact X29.returnOut hx Bd.returns (hb hby d3_57) hr
 ·show Q_str4_1 Z x_ s_ ks_ z_ c0_ h0 n0 _ T29.heap _
  rw [e29]
  exact ⟨rfl, N31, kp33, (((E0_.keep K10).wr W22).wr W29), f34, b7, k8, f30, ((p11.other W22 q35).other W29 q35), g17, z16⟩
theorem d4_0 : decode jdk_42_method_3_code 0 = .ok (.aload_n 0, 1) := by decide +kernel
theorem d4_1 : decode jdk_42_method_3_code 1 = .ok (.aload_n 1, 1) := by decide +kernel
theorem d4_2 : decode jdk_42_method_3_code 2 = .ok (.iconst 0, 1) := by decide +kernel
theorem d4_3 : decode jdk_42_method_3_code 3 = .ok (.aload_n 1, 1) := by decide +kernel
theorem d4_4 : decode jdk_42_method_3_code 4 = .ok (.arraylength, 1) := by decide +kernel
theorem d4_5 : decode jdk_42_method_3_code 5 = .ok (.aconst_null, 1) := by decide +kernel
theorem d4_6 : decode jdk_42_method_3_code 6 = .ok (.invokespecial 27, 3) := by decide +kernel
theorem pd_pACIILjava_lang_Void_rV : parseMethodDescriptor "([CIILjava/lang/Void;)V" = some ⟨[(.array .char), .int, .int, (.object "java/lang/Void")], none⟩ := by decide +kernel
theorem d4_9 : decode jdk_42_method_3_code 9 = .ok (.return_, 1) := by decide +kernel
theorem ef_str1_1 (m : MethodId) (x_ : Addr) (s_ : Addr) : entryFrame m #[(rr x_), (rr s_)] 2 = mkF m 0 #[vr x_, vr s_] [] := by first | (simp [entryFrame, mkF, argsToLocals, Value.category]; done) | rfl
def Q_str1_1 (Z : State) (x_ : Addr) (s_ : Addr) (ks_ : ClassId) (z_ : Int32) (c0_ : Int32) (h0 : Heap) (n0 : Nat) (v : Option Value) (h : Heap) (L : List Loc) : Prop := v = none ∧ Fr n0 L ∧ Keep h0 h [x_] ∧ Exa Z h x_ nm1 ∧ Fld Z h x_ nm1 "coder" "B" (ii 0) ∧ ∃ (b_ : Addr), ∃ (kb_ : ClassId), Fld Z h x_ nm1 "value" "[B" (rr b_) ∧ Arv Z h b_ kb_ .byte (1 : Int32) [(.int (nar .byte (c0_.toInt8.toInt32)))] (ii 0) ∧ n0 ≤ b_ ∧ h0.size ≤ b_
set_option maxRecDepth 65536 in
set_option maxHeartbeats 40000000 in
theorem rm_str1_1 (l : Launch) (Z : State) (a0 : Array Value) (hw : HW Z a0) (ws : List Jvm.Cond) (x_ : Addr) (s_ : Addr) (ks_ : ClassId) (z_ : Int32) (c0_ : Int32) (h0 : Heap) (n0 : Nat) (O0 : Old Z n0 h0) (E0_ : Exa Z h0 x_ nm1) (F1_ : Fld Z h0 x_ nm1 "value" "[B" .null) (F2_ : Fld Z h0 x_ nm1 "coder" "B" (ii 0)) (G3_ : n0 ≤ x_) (A4_ : Arv Z h0 s_ ks_ .char (1 : Int32) [(.int c0_)] (ii 0)) (ZS5_ : Sta Z Z.heap nm1 "COMPACT_STRINGS" "Z" (.int z_)) (hz_ : ¬ (z_ = (0 : Int32))) (hs0_ : ¬ ((255 : Int32) < c0_)) :
  MFP l Z (⟨nm1, "<init>", "([C)V"⟩ : MethodName) jdk_42_method_3_code 2 none ({ frames := 3, cells := 1, slots := 1, locals := 52 } : Room) ws #[(rr x_), (rr s_)] h0 (Q_str1_1 Z x_ s_ ks_ z_ c0_ h0 n0) := by
 refine MetFree.of_bodySF (plainFor_of_name pn_java_lang_String) hisR ?_
 intro p e s m args below meth c s₁ Bd hml0 hP hK
 obtain ⟨rfl, hZ, hh⟩ := hP
 have hx := Bd.exec
 have hby := Bd.bytes
 have hml : c.maxLocals = 2 := hml0
 have hown : s.vm.findClass nm1 = some m.cls := findClass_of_methodNamed Bd.named
 have hnm := (name_of_methodNamed Bd.named Bd.method).1
 have X0 : Stand p l e ({ frames := 3, cells := 1, slots := 1, locals := 52 } : Room) s m #[(rr x_), (rr s_)] below meth c s₁ [] 0 0 := Stand.of_body Bd
 have e0 : s₁.heap = h0 := by rw [← hh, Bd.state]; rfl
 have N0 := Fr.nil n0
 have kp0 : Keep h0 h0 [x_] := Keep.refl _ _
 have c0 : ∀ t, S_ p e below s₁ m 0 #[vr x_, vr s_] [] t → Steps p.tables e below (s₁.setTop (entryFrame m #[(rr x_), (rr s_)] 2)) t := fun t k => castTop (ef_str1_1 m x_ s_) k
 generalize s₁.setTop (entryFrame m #[(rr x_), (rr s_)] 2) = st0 at c0 ⊢
 replace c0 : Kt p e below s₁ st0 (mkF m 0 #[vr x_, vr s_] []) := c0
 have c1 : Kt p e below s₁ st0 (mkF m 6 #[vr x_, vr s_] [.null, (ii 1), (ii 0), (rr s_), (rr x_)]) := fun t k => by
  refine c0 t ?_
  show S_ p e below s₁ m 0 #[vr x_, vr s_] [] t
  refine XS.aloadN X0.here hx rfl (hb hby d4_0) rfl rfl ?_
  show S_ p e below s₁ m 1 #[vr x_, vr s_] [(rr x_)] t
  refine XS.aloadN X0.here hx rfl (hb hby d4_1) rfl rfl ?_
  show S_ p e below s₁ m 2 #[vr x_, vr s_] [(rr s_), (rr x_)] t
  refine XS.iconst X0.here hx rfl (hb hby d4_2) ?_
  show S_ p e below s₁ m 3 #[vr x_, vr s_] [(ii 0), (rr s_), (rr x_)] t
  refine XS.aloadN X0.here hx rfl (hb hby d4_3) rfl rfl ?_
  show S_ p e below s₁ m 4 #[vr x_, vr s_] [(rr s_), (ii 0), (rr s_), (rr x_)] t
  refine ldLen X0 hx hZ e0 A4_ rfl rfl (hb hby d4_4) ?_
  show S_ p e below s₁ m 5 #[vr x_, vr s_] [(ii 1), (ii 0), (rr s_), (rr x_)] t
  refine XS.aconstNull X0.here hx rfl (hb hby d4_5) ?_
  exact k
 obtain ⟨_, T2, L2, X2, hQ2, c2⟩ := kspec X0 hx hZ hown (w11 hw) (w12 hw) (w6 hw) (w14 hw) (rm_str4_1 l Z a0 hw [] x_ s_ ks_ z_ c0_ h0 n0 O0 E0_ F1_ F2_ G3_ A4_ ZS5_ hz_ hs0_) e0 c1 hml pd_pACIILjava_lang_Void_rV x_ [(rr s_), (ii 0), (ii 1), .null] [] 0 (hb hby d4_6) rfl rfl rfl rfl rfl rfl
 obtain ⟨rfl, N3q, K4, p5, p6, b7, k8, p9, p10, p11, p12⟩ := hQ2
 have N3 := Fr.app N0 N3q
 have o13 := O0.keep K4 (allS G3_ all0)
 have kp14 := kp0.trans K4 (allS (Or.inl (List.mem_of_getElem? (i := 0) rfl)) all0)
 have z15 := Nat.le_trans kp0.1 p12
 have g16 := Nat.le_trans (Nat.le_trans (Nat.le_of_eq O0.1.symm) O0.2.1) p12
 obtain ⟨fs, hr, hrun, hended, hW, hsame⟩ := X2.leave (v := none) (fun _ => rfl)
 refine ⟨_, _, c2 _ ?_, hrun, hended, _, _, rfl, ?_, ⟨_, rfl⟩, hW, hsame.mono (by decide) (by decide)⟩
 ·show S_ p e below T2 m 9 #[vr x_, vr s_] [] _
  exact X2.returnOut hx Bd.returns (hb hby d4_9) hr
 ·show Q_str1_1 Z x_ s_ ks_ z_ c0_ h0 n0 _ T2.heap _
  exact ⟨rfl, N3, kp14, p5, p6, b7, k8, p9, p10, g16, z15⟩
theorem ef_cmp5_2 (m : MethodId) (s_ : Addr) (d_ : Addr) : entryFrame m #[(rr s_), (ii 0), (rr d_), (ii 0), (ii 2)] 7 = mkF m 0 #[vr s_, vi 0, vr d_, vi 0, vi 2, u_, u_] [] := by first | (simp [entryFrame, mkF, argsToLocals, Value.category]; done) | rfl
def Q_cmp5_2 (Z : State) (s_ : Addr) (ks_ : ClassId) (d_ : Addr) (kd_ : ClassId) (c0_ : Int32) (c1_ : Int32) (h0 : Heap) (n0 : Nat) (v : Option Value) (h : Heap) (L : List Loc) : Prop := v = some (ii 2) ∧ Fr n0 L ∧ Keep h0 h [d_] ∧ Arv Z h d_ kd_ .byte (2 : Int32) [(.int (nar .byte (c0_.toInt8.toInt32))), (.int (nar .byte (c1_.toInt8.toInt32)))] (ii 0)
set_option maxRecDepth 65536 in
set_option maxHeartbeats 40000000 in
theorem rm_cmp5_2 (l : Launch) (Z : State) (a0 : Array Value) (hw : HW Z a0) (ws : List Jvm.Cond) (s_ : Addr) (ks_ : ClassId) (d_ : Addr) (kd_ : ClassId) (c0_ : Int32) (c1_ : Int32) (h0 : Heap) (n0 : Nat) (O0 : Old Z n0 h0) (A0_ : Arv Z h0 s_ ks_ .char (2 : Int32) [(.int c0_), (.int c1_)] (ii 0)) (A1_ : Arv Z h0 d_ kd_ .byte (2 : Int32) [(ii 0), (ii 0)] (ii 0)) (G2_ : n0 ≤ d_) (NE3_ : s_ ≠ d_) (hs0_ : ¬ ((255 : Int32) < c0_)) (hs1_ : ¬ ((255 : Int32) < c1_)) :
  MFP l Z (⟨nm5, "compress", "([CI[BII)I"⟩ : MethodName) jdk_52_method_21_code 7 (some .int) ({ frames := 0, cells := 0, slots := 0, locals := 0 } : Room) ws #[(rr s_), (ii 0), (rr d_), (ii 0), (ii 2)] h0 (Q_cmp5_2 Z s_ ks_ d_ kd_ c0_ c1_ h0 n0) := by
 refine MetFree.of_bodySF (plainFor_of_name pn_java_lang_StringUTF16) hisR ?_
 intro p e s m args below meth c s₁ Bd hml0 hP hK
 obtain ⟨rfl, hZ, hh⟩ := hP
 have hx := Bd.exec
 have hby := Bd.bytes
 have hml : c.maxLocals = 7 := hml0
 have hown : s.vm.findClass nm5 = some m.cls := findClass_of_methodNamed Bd.named
 have hnm := (name_of_methodNamed Bd.named Bd.method).1
 have X0 : Stand p l e ({ frames := 0, cells := 0, slots := 0, locals := 0 } : Room) s m #[(rr s_), (ii 0), (rr d_), (ii 0), (ii 2)] below meth c s₁ [] 0 0 := Stand.of_body Bd
 have e0 : s₁.heap = h0 := by rw [← hh, Bd.state]; rfl
 have N0 := Fr.nil n0
 have kp0 : Keep h0 h0 [d_] := Keep.refl _ _
 have c0 : ∀ t, S_ p e below s₁ m 0 #[vr s_, vi 0, vr d_, vi 0, vi 2, u_, u_] [] t → Steps p.tables e below (s₁.setTop (entryFrame m #[(rr s_), (ii 0), (rr d_), (ii 0), (ii 2)] 7)) t := fun t k => castTop (ef_cmp5_2 m s_ d_) k
 generalize s₁.setTop (entryFrame m #[(rr s_), (ii 0), (rr d_), (ii 0), (ii 2)] 7) = st0 at c0 ⊢
 replace c0 : Kt p e below s₁ st0 (mkF m 0 #[vr s_, vi 0, vr d_, vi 0, vi 2, u_, u_] []) := c0
 have c1 : Kt p e below s₁ st0 (mkF m 31 #[vr s_, vi 0, vr d_, vi 0, vi 2, vi 0, vi c0_] [(.int (c0_.toInt8.toInt32)), (ii 0), (rr d_)]) := fun t k => by
  refine c0 t ?_
  show S_ p e below s₁ m 0 #[vr s_, vi 0, vr d_, vi 0, vi 2, u_, u_] [] t
  refine XS.iconst X0.here hx rfl (hb hby d0_0) ?_
  show S_ p e below s₁ m 1 #[vr s_, vi 0, vr d_, vi 0, vi 2, u_, u_] [(ii 0)] t
  refine XS.istore X0.here hx rfl (hb hby d0_1) rfl (l' := #[vr s_, vi 0, vr d_, vi 0, vi 2, vi 0, u_]) rfl ?_
  show S_ p e below s₁ m 3 #[vr s_, vi 0, vr d_, vi 0, vi 2, vi 0, u_] [] t
  refine XS.iload X0.here hx rfl (hb hby d0_3) rfl ?_
  show S_ p e below s₁ m 5 #[vr s_, vi 0, vr d_, vi 0, vi 2, vi 0, u_] [(ii 0)] t
  refine XS.iload X0.here hx rfl (hb hby d0_5) rfl ?_
  show S_ p e below s₁ m 7 #[vr s_, vi 0, vr d_, vi 0, vi 2, vi 0, u_] [(ii 2), (ii 0)] t
  refine XS.icmpNo X0.here hx rfl (hb hby d0_7) rfl rfl ?_
  show S_ p e below s₁ m 10 #[vr s_, vi 0, vr d_, vi 0, vi 2, vi 0, u_] [] t
  refine XS.aloadN X0.here hx rfl (hb hby d0_10) rfl rfl ?_
  show S_ p e below s₁ m 11 #[vr s_, vi 0, vr d_, vi 0, vi 2, vi 0, u_] [(rr s_)] t
  refine XS.iloadN X0.here hx rfl (hb hby d0_11) rfl ?_
  show S_ p e below s₁ m 12 #[vr s_, vi 0, vr d_, vi 0, vi 2, vi 0, u_] [(ii 0), (rr s_)] t
  refine ldC X0 hx hZ e0 A0_ (v := (.int c0_)) (by decide) (by decide) rfl rfl rfl (hb hby d0_12) ?_
  show S_ p e below s₁ m 13 #[vr s_, vi 0, vr d_, vi 0, vi 2, vi 0, u_] [(.int c0_)] t
  refine XS.istore X0.here hx rfl (hb hby d0_13) rfl (l' := #[vr s_, vi 0, vr d_, vi 0, vi 2, vi 0, vi c0_]) rfl ?_
  show S_ p e below s₁ m 15 #[vr s_, vi 0, vr d_, vi 0, vi 2, vi 0, vi c0_] [] t
  refine XS.iload X0.here hx rfl (hb hby d0_15) rfl ?_
  show S_ p e below s₁ m 17 #[vr s_, vi 0, vr d_, vi 0, vi 2, vi 0, vi c0_] [(.int c0_)] t
  refine XS.sipush X0.here hx rfl (hb hby d0_17) ?_
  show S_ p e below s₁ m 20 #[vr s_, vi 0, vr d_, vi 0, vi 2, vi 0, vi c0_] [(ii 255), (.int c0_)] t
  refine yC X0.here hx rfl 20 26 rfl (hb hby d0_20) rfl (flt hs0_).2.2.2 ?_
  show S_ p e below s₁ m 26 #[vr s_, vi 0, vr d_, vi 0, vi 2, vi 0, vi c0_] [] t
  refine XS.aloadN X0.here hx rfl (hb hby d0_26) rfl rfl ?_
  show S_ p e below s₁ m 27 #[vr s_, vi 0, vr d_, vi 0, vi 2, vi 0, vi c0_] [(rr d_)] t
  refine XS.iloadN X0.here hx rfl (hb hby d0_27) rfl ?_
  show S_ p e below s₁ m 28 #[vr s_, vi 0, vr d_, vi 0, vi 2, vi 0, vi c0_] [(ii 0), (rr d_)] t
  refine XS.iload X0.here hx rfl (hb hby d0_28) rfl ?_
  show S_ p e below s₁ m 30 #[vr s_, vi 0, vr d_, vi 0, vi 2, vi 0, vi c0_] [(.int c0_), (ii 0), (rr d_)] t
  refine XS.i2b X0.here hx rfl (hb hby d0_30) rfl ?_
  exact k
 obtain ⟨T2, h2, X2, e2, W2, f5, o3, N4, c2⟩ := kstB X0 hx hZ e0 A1_ (j := (0 : Int32)) (by decide) (by decide) 0 rfl (Nat.le_of_ble_eq_true rfl) c1 rfl rfl (hb hby d0_31) O0 N0 G2_
 have f6 : Arv Z h2 d_ kd_ .byte (2 : Int32) [(.int (nar .byte (c0_.toInt8.toInt32))), (ii 0)] (ii 0) := f5
 have kp7 := kp0.wr W2 (Or.inl (List.mem_of_getElem? (i := 0) rfl))
 have c8 : Kt p e below T2 st0 (mkF m 31 #[vr s_, vi 1, vr d_, vi 1, vi 2, vi 1, vi c1_] [(.int (c1_.toInt8.toInt32)), (ii 1), (rr d_)]) := fun t k => by
  refine c2 t ?_
  show S_ p e below T2 m 32 #[vr s_, vi 0, vr d_, vi 0, vi 2, vi 0, vi c0_] [] t
  refine XS.iinc X2.here hx rfl (hb hby d0_32) rfl (l' := #[vr s_, vi 1, vr d_, vi 0, vi 2, vi 0, vi c0_]) rfl ?_
  show S_ p e below T2 m 35 #[vr s_, vi 1, vr d_, vi 0, vi 2, vi 0, vi c0_] [] t
  refine XS.iinc X2.here hx rfl (hb hby d0_35) rfl (l' := #[vr s_, vi 1, vr d_, vi 1, vi 2, vi 0, vi c0_]) rfl ?_
  show S_ p e below T2 m 38 #[vr s_, vi 1, vr d_, vi 1, vi 2, vi 0, vi c0_] [] t
  refine XS.iinc X2.here hx rfl (hb hby d0_38) rfl (l' := #[vr s_, vi 1, vr d_, vi 1, vi 2, vi 1, vi c0_]) rfl ?_
  show S_ p e below T2 m 41 #[vr s_, vi 1, vr d_, vi 1, vi 2, vi 1, vi c0_] [] t
  refine yG X2.here hx rfl 41 3 rfl (hb hby d0_41) ?_
  show S_ p e below T2 m 3 #[vr s_, vi 1, vr d_, vi 1, vi 2, vi 1, vi c0_] [] t
  refine XS.iload X2.here hx rfl (hb hby d0_3) rfl ?_
  show S_ p e below T2 m 5 #[vr s_, vi 1, vr d_, vi 1, vi 2, vi 1, vi c0_] [(ii 1)] t
  refine XS.iload X2.here hx rfl (hb hby d0_5) rfl ?_
  show S_ p e below T2 m 7 #[vr s_, vi 1, vr d_, vi 1, vi 2, vi 1, vi c0_] [(ii 2), (ii 1)] t
  refine XS.icmpNo X2.here hx rfl (hb hby d0_7) rfl rfl ?_
  show S_ p e below T2 m 10 #[vr s_, vi 1, vr d_, vi 1, vi 2, vi 1, vi c0_] [] t
  refine XS.aloadN X2.here hx rfl (hb hby d0_10) rfl rfl ?_
  show S_ p e below T2 m 11 #[vr s_, vi 1, vr d_, vi 1, vi 2, vi 1, vi c0_] [(rr s_)] t
  refine XS.iloadN X2.here hx rfl (hb hby d0_11) rfl ?_
  show S_ p e below T2 m 12 #[vr s_, vi 1, vr d_, vi 1, vi 2, vi 1, vi c0_] [(ii 1), (rr s_)] t
  refine ldC X2 hx hZ e2 (A0_.other W2 NE3_) (v := (.int c1_)) (by decide) (by decide) rfl rfl rfl (hb hby d0_12) ?_
  show S_ p e below T2 m 13 #[vr s_, vi 1, vr d_, vi 1, vi 2, vi 1, vi c0_] [(.int c1_)] t
  refine XS.istore X2.here hx rfl (hb hby d0_13) rfl (l' := #[vr s_, vi 1, vr d_, vi 1, vi 2, vi 1, vi c1_]) rfl ?_
  show S_ p e below T2 m 15 #[vr s_, vi 1, vr d_, vi 1, vi 2, vi 1, vi c1_] [] t
  refine XS.iload X2.here hx rfl (hb hby d0_15) rfl ?_
  show S_ p e below T2 m 17 #[vr s_, vi 1, vr d_, vi 1, vi 2, vi 1, vi c1_] [(.int c1_)] t
  refine XS.sipush X2.here hx rfl (hb hby d0_17) ?_
  show S_ p e below T2 m 20 #[vr s_, vi 1, vr d_, vi 1, vi 2, vi 1, vi c1_] [(ii 255), (.int c1_)] t
  refine yC X2.here hx rfl 20 26 rfl (hb hby d0_20) rfl (flt hs1_).2.2.2 ?_
  show S_ p e below T2 m 26 #[vr s_, vi 1, vr d_, vi 1, vi 2, vi 1, vi c1_] [] t
  refine XS.aloadN X2.here hx rfl (hb hby d0_26) rfl rfl ?_
  show S_ p e below T2 m 27 #[vr s_, vi 1, vr d_, vi 1, vi 2, vi 1, vi c1_] [(rr d_)] t
  refine XS.iloadN X2.here hx rfl (hb hby d0_27) rfl ?_
  show S_ p e below T2 m 28 #[vr s_, vi 1, vr d_, vi 1, vi 2, vi 1, vi c1_] [(ii 1), (rr d_)] t
  refine XS.iload X2.here hx rfl (hb hby d0_28) rfl ?_
  show S_ p e below T2 m 30 #[vr s_, vi 1, vr d_, vi 1, vi 2, vi 1, vi c1_] [(.int c1_), (ii 1), (rr d_)] t
  refine XS.i2b X2.here hx rfl (hb hby d0_30) rfl ?_
  exact k
 obtain ⟨T9, h9, X9, e9, W9, f12, o10, N11, c9⟩ := kstB X2 hx hZ e2 f6 (j := (1 : Int32)) (by decide) (by decide) 1 rfl (Nat.le_of_ble_eq_true rfl) c8 rfl rfl (hb hby d0_31) o3 N4 G2_
 have f13 : Arv Z h9 d_ kd_ .byte (2 : Int32) [(.int (nar .byte (c0_.toInt8.toInt32))), (.int (nar .byte (c1_.toInt8.toInt32)))] (ii 0) := f12
 have kp14 := kp7.wr W9 (Or.inl (List.mem_of_getElem? (i := 0) rfl))
 obtain ⟨fs, hr, hrun, hended, hW, hsame⟩ := X9.leave (v := some (ii 2)) (fun h => by rw [Bd.returns] at h; cases h)
 refine ⟨_, _, c9 _ ?_, hrun, hended, _, _, rfl, ?_, ⟨_, rfl⟩, hW, hsame.mono (by decide) (by decide)⟩
 ·show S_ p e below T9 m 32 #[vr s_, vi 1, vr d_, vi 1, vi 2, vi 1, vi c1_] [] _
  refine XS.iinc X9.here hx rfl (hb hby d0_32) rfl (l' := #[vr s_, vi 2, vr d_, vi 1, vi 2, vi 1, vi c1_]) rfl ?_
  show S_ p e below T9 m 35 #[vr s_, vi 2, vr d_, vi 1, vi 2, vi 1, vi c1_] [] _
  refine XS.iinc X9.here hx rfl (hb hby d0_35) rfl (l' := #[vr s_, vi 2, vr d_, vi 2, vi 2, vi 1, vi c1_]) rfl ?_
  show S_ p e below T9 m 38 #[vr s_, vi 2, vr d_, vi 2, vi 2, vi 1, vi c1_] [] _
  refine XS.iinc X9.here hx rfl (hb hby d0_38) rfl (l' := #[vr s_, vi 2, vr d_, vi 2, vi 2, vi 2, vi c1_]) rfl ?_
  show S_ p e below T9 m 41 #[vr s_, vi 2, vr d_, vi 2, vi 2, vi 2, vi c1_] [] _
  refine yG X9.here hx rfl 41 3 rfl (hb hby d0_41) ?_
  show S_ p e below T9 m 3 #[vr s_, vi 2, vr d_, vi 2, vi 2, vi 2, vi c1_] [] _
  refine XS.iload X9.here hx rfl (hb hby d0_3) rfl ?_
  show S_ p e below T9 m 5 #[vr s_, vi 2, vr d_, vi 2, vi 2, vi 2, vi c1_] [(ii 2)] _
  refine XS.iload X9.here hx rfl (hb hby d0_5) rfl ?_
  show S_ p e below T9 m 7 #[vr s_, vi 2, vr d_, vi 2, vi 2, vi 2, vi c1_] [(ii 2), (ii 2)] _
  refine yC X9.here hx rfl 7 44 rfl (hb hby d0_7) rfl rfl ?_
  show S_ p e below T9 m 44 #[vr s_, vi 2, vr d_, vi 2, vi 2, vi 2, vi c1_] [] _
  refine XS.iload X9.here hx rfl (hb hby d0_44) rfl ?_
  show S_ p e below T9 m 46 #[vr s_, vi 2, vr d_, vi 2, vi 2, vi 2, vi c1_] [(ii 2)] _
  exact retOut X9 hx Bd.returns rfl (Or.inl ⟨rfl, Or.inl rfl, _, rfl⟩) (hb hby d0_46) hr
 ·show Q_cmp5_2 Z s_ ks_ d_ kd_ c0_ c1_ h0 n0 _ T9.heap _
  rw [e9]
  exact ⟨rfl, N11, kp14, f13⟩
theorem ef_cmp3_2 (m : MethodId) (s_ : Addr) : entryFrame m #[(rr s_), (ii 0), (ii 2)] 6 = mkF m 0 #[vr s_, vi 0, vi 2, u_, u_, u_] [] := by first | (simp [entryFrame, mkF, argsToLocals, Value.category]; done) | rfl
def Q_cmp3_2 (Z : State) (s_ : Addr) (ks_ : ClassId) (c0_ : Int32) (c1_ : Int32) (h0 : Heap) (n0 : Nat) (v : Option Value) (h : Heap) (L : List Loc) : Prop := ∃ (b_ : Addr), ∃ (kb_ : ClassId), v = some (rr b_) ∧ Fr n0 L ∧ Keep h0 h [] ∧ Arv Z h b_ kb_ .byte (2 : Int32) [(.int (nar .byte (c0_.toInt8.toInt32))), (.int (nar .byte (c1_.toInt8.toInt32)))] (ii 0) ∧ n0 ≤ b_ ∧ h0.size ≤ b_
set_option maxRecDepth 65536 in
set_option maxHeartbeats 40000000 in
theorem rm_cmp3_2 (l : Launch) (Z : State) (a0 : Array Value) (hw : HW Z a0) (ws : List Jvm.Cond) (s_ : Addr) (ks_ : ClassId) (c0_ : Int32) (c1_ : Int32) (h0 : Heap) (n0 : Nat) (O0 : Old Z n0 h0) (A0_ : Arv Z h0 s_ ks_ .char (2 : Int32) [(.int c0_), (.int c1_)] (ii 0)) (hs0_ : ¬ ((255 : Int32) < c0_)) (hs1_ : ¬ ((255 : Int32) < c1_)) :
  MFP l Z (⟨nm5, "compress", "([CII)[B"⟩ : MethodName) jdk_52_method_16_code 6 (some (.array .byte)) ({ frames := 1, cells := 1, slots := 2, locals := 18 } : Room) ws #[(rr s_), (ii 0), (ii 2)] h0 (Q_cmp3_2 Z s_ ks_ c0_ c1_ h0 n0) := by
 refine MetFree.of_bodySF (plainFor_of_name pn_java_lang_StringUTF16) hisR ?_
 intro p e s m args below meth c s₁ Bd hml0 hP hK
 obtain ⟨rfl, hZ, hh⟩ := hP
 have hx := Bd.exec
 have hby := Bd.bytes
 have hml : c.maxLocals = 6 := hml0
 have hown : s.vm.findClass nm5 = some m.cls := findClass_of_methodNamed Bd.named
 have hnm := (name_of_methodNamed Bd.named Bd.method).1
 have X0 : Stand p l e ({ frames := 1, cells := 1, slots := 2, locals := 18 } : Room) s m #[(rr s_), (ii 0), (ii 2)] below meth c s₁ [] 0 0 := Stand.of_body Bd
 have e0 : s₁.heap = h0 := by rw [← hh, Bd.state]; rfl
 have N0 := Fr.nil n0
 have kp0 : Keep h0 h0 [] := Keep.refl _ _
 have c0 : ∀ t, S_ p e below s₁ m 0 #[vr s_, vi 0, vi 2, u_, u_, u_] [] t → Steps p.tables e below (s₁.setTop (entryFrame m #[(rr s_), (ii 0), (ii 2)] 6)) t := fun t k => castTop (ef_cmp3_2 m s_) k
 generalize s₁.setTop (entryFrame m #[(rr s_), (ii 0), (ii 2)] 6) = st0 at c0 ⊢
 replace c0 : Kt p e below s₁ st0 (mkF m 0 #[vr s_, vi 0, vi 2, u_, u_, u_] []) := c0
 have c1 : Kt p e below s₁ st0 (mkF m 1 #[vr s_, vi 0, vi 2, u_, u_, u_] [(ii 2)]) := fun t k => by
  refine c0 t ?_
  show S_ p e below s₁ m 0 #[vr s_, vi 0, vi 2, u_, u_, u_] [] t
  refine XS.iloadN X0.here hx rfl (hb hby d1_0) rfl ?_
  exact k
 obtain ⟨b2, T2, h2, k2, z2, g2, X2, e2, E2, o3, A2, c2⟩ := knewP (aty := .byte) X0 hx hZ (w19 hw) e0 c1 rfl (hb hby d1_1) rfl (by decide) 2 (by decide) (by decide) (by decide) (by decide) O0
 have kp5 := kp0.ext E2
 have z6 := Nat.le_trans kp0.1 z2
 have f4 : Arv Z h2 b2 k2 .byte (2 : Int32) [(ii 0), (ii 0)] (ii 0) := A2.pad (pad_rep [] (ii 0) 2)
 have q7 := Nat.ne_of_lt (Nat.lt_of_lt_of_le A0_.lt z2)
 have c8 : Kt p e below T2 st0 (mkF m 9 #[vr s_, vi 0, vi 2, vr b2, u_, u_] [(ii 2), (ii 0), (rr b2), (ii 0), (rr s_)]) := fun t k => by
  refine c2 t ?_
  show S_ p e below T2 m 3 #[vr s_, vi 0, vi 2, u_, u_, u_] [(rr b2)] t
  refine XS.astoreN X2.here hx rfl (hb hby d1_3) rfl rfl (l' := #[vr s_, vi 0, vi 2, vr b2, u_, u_]) rfl ?_
  show S_ p e below T2 m 4 #[vr s_, vi 0, vi 2, vr b2, u_, u_] [] t
  refine XS.aloadN X2.here hx rfl (hb hby d1_4) rfl rfl ?_
  show S_ p e below T2 m 5 #[vr s_, vi 0, vi 2, vr b2, u_, u_] [(rr s_)] t
  refine XS.iloadN X2.here hx rfl (hb hby d1_5) rfl ?_
  show S_ p e below T2 m 6 #[vr s_, vi 0, vi 2, vr b2, u_, u_] [(ii 0), (rr s_)] t
  refine XS.aloadN X2.here hx rfl (hb hby d1_6) rfl rfl ?_
  show S_ p e below T2 m 7 #[vr s_, vi 0, vi 2, vr b2, u_, u_] [(rr b2), (ii 0), (rr s_)] t
  refine XS.iconst X2.here hx rfl (hb hby d1_7) ?_
  show S_ p e below T2 m 8 #[vr s_, vi 0, vi 2, vr b2, u_, u_] [(ii 0), (rr b2), (ii 0), (rr s_)] t
  refine XS.iloadN X2.here hx rfl (hb hby d1_8) rfl ?_
  exact k
 obtain ⟨_, T9, L9, X9, hQ9, c9⟩ := kstat X2 hx hZ hown (w129 hw) (w130 hw) (w127 hw) (w131 hw) (rm_cmp5_2 l Z a0 hw [] s_ ks_ b2 k2 c0_ c1_ h2 n0 o3 (A0_.ext E2) f4 g2 q7 hs0_ hs1_) e2 c8 hml pd_pACIABIIrI [(rr s_), (ii 0), (rr b2), (ii 0), (ii 2)] [] 0 (hb hby d1_9) rfl rfl rfl rfl rfl rfl
 obtain ⟨rfl, N10q, K11, p12⟩ := hQ9
 have N10 := Fr.app N0 N10q
 have o13 := o3.keep K11 (allS g2 all0)
 have kp14 := kp5.trans K11 (allS (Or.inr z6) all0)
 obtain ⟨fs, hr, hrun, hended, hW, hsame⟩ := X9.leave (v := some (rr b2)) (fun h => by rw [Bd.returns] at h; cases h)
 refine ⟨_, _, c9 _ ?_, hrun, hended, _, _, rfl, ?_, ⟨_, rfl⟩, hW, hsame.mono (by decide) (by decide)⟩
 ·show S_ p e below T9 m 12 #[vr s_, vi 0, vi 2, vr b2, u_, u_] [(ii 2)] _
  refine XS.istore X9.here hx rfl (hb hby d1_12) rfl (l' := #[vr s_, vi 0, vi 2, vr b2, vi 2, u_]) rfl ?_
  show S_ p e below T9 m 14 #[vr s_, vi 0, vi 2, vr b2, vi 2, u_] [] _
  refine XS.iload X9.here hx rfl (hb hby d1_14) rfl ?_
  show S_ p e below T9 m 16 #[vr s_, vi 0, vi 2, vr b2, vi 2, u_] [(ii 2)] _
  refine XS.iloadN X9.here hx rfl (hb hby d1_16) rfl ?_
  show S_ p e below T9 m 17 #[vr s_, vi 0, vi 2, vr b2, vi 2, u_] [(ii 2), (ii 2)] _
  refine yC X9.here hx rfl 17 57 rfl (hb hby d1_17) rfl rfl ?_
  show S_ p e below T9 m 57 #[vr s_, vi 0, vi 2, vr b2, vi 2, u_] [] _
  refine XS.aloadN X9.here hx rfl (hb hby d1_57) rfl rfl ?_
  show S_ p e below T9 m 58 #[vr s_, vi 0, vi 2, vr b2, vi 2, u_] [(rr b2)] _
  exact retOut X9 hx Bd.returns rfl (Or.inr (Or.inr (Or.inr (Or.inr ⟨rfl, rfl, rfl⟩)))) (hb hby d1_58) hr
 ·show Q_cmp3_2 Z s_ ks_ c0_ c1_ h0 n0 _ T9.heap _
  exact ⟨b2, k2, rfl, N10, kp14, p12, g2, z6⟩
theorem ef_codl_2 (m : MethodId) (s_ : Addr) : entryFrame m #[(rr s_), (ii 2)] 2 = mkF m 0 #[vr s_, vi 2] [] := by first | (simp [entryFrame, mkF, argsToLocals, Value.category]; done) | rfl
def Q_codl_2 (Z : State) (s_ : Addr) (ks_ : ClassId) (vs_ : List Value) (h0 : Heap) (n0 : Nat) (v : Option Value) (h : Heap) (L : List Loc) : Prop := v = some (ii 0) ∧ Fr n0 L ∧ h = h0
set_option maxRecDepth 65536 in
set_option maxHeartbeats 40000000 in
theorem rm_codl_2 (l : Launch) (Z : State) (a0 : Array Value) (hw : HW Z a0) (ws : List Jvm.Cond) (s_ : Addr) (ks_ : ClassId) (vs_ : List Value) (h0 : Heap) (n0 : Nat) (O0 : Old Z n0 h0) (A0_ : Arv Z h0 s_ ks_ .byte (2 : Int32) vs_ (ii 0)) :
  MFP l Z (⟨nm5, "coderFromArrayLen", "([BI)B"⟩ : MethodName) jdk_52_method_15_code 2 (some .byte) ({ frames := 0, cells := 0, slots := 0, locals := 0 } : Room) ws #[(rr s_), (ii 2)] h0 (Q_codl_2 Z s_ ks_ vs_ h0 n0) := by
 refine MetFree.of_bodySF (plainFor_of_name pn_java_lang_StringUTF16) hisR ?_
 intro p e s m args below meth c s₁ Bd hml0 hP hK
 obtain ⟨rfl, hZ, hh⟩ := hP
 have hx := Bd.exec
 have hby := Bd.bytes
 have hml : c.maxLocals = 2 := hml0
 have hown : s.vm.findClass nm5 = some m.cls := findClass_of_methodNamed Bd.named
 have hnm := (name_of_methodNamed Bd.named Bd.method).1
 have X0 : Stand p l e ({ frames := 0, cells := 0, slots := 0, locals := 0 } : Room) s m #[(rr s_), (ii 2)] below meth c s₁ [] 0 0 := Stand.of_body Bd
 have e0 : s₁.heap = h0 := by rw [← hh, Bd.state]; rfl
 have N0 := Fr.nil n0
 have kp0 : Keep h0 h0 [] := Keep.refl _ _
 have c0 : ∀ t, S_ p e below s₁ m 0 #[vr s_, vi 2] [] t → Steps p.tables e below (s₁.setTop (entryFrame m #[(rr s_), (ii 2)] 2)) t := fun t k => castTop (ef_codl_2 m s_) k
 generalize s₁.setTop (entryFrame m #[(rr s_), (ii 2)] 2) = st0 at c0 ⊢
 replace c0 : Kt p e below s₁ st0 (mkF m 0 #[vr s_, vi 2] []) := c0
 obtain ⟨fs, hr, hrun, hended, hW, hsame⟩ := X0.leave (v := some (ii 0)) (fun h => by rw [Bd.returns] at h; cases h)
 refine ⟨_, _, c0 _ ?_, hrun, hended, _, _, rfl, ?_, ⟨_, rfl⟩, hW, hsame.mono (by decide) (by decide)⟩
 ·show S_ p e below s₁ m 0 #[vr s_, vi 2] [] _
  refine XS.iloadN X0.here hx rfl (hb hby d2_0) rfl ?_
  show S_ p e below s₁ m 1 #[vr s_, vi 2] [(ii 2)] _
  refine XS.aloadN X0.here hx rfl (hb hby d2_1) rfl rfl ?_
  show S_ p e below s₁ m 2 #[vr s_, vi 2] [(rr s_), (ii 2)] _
  refine ldLen X0 hx hZ e0 A0_ rfl rfl (hb hby d2_2) ?_
  show S_ p e below s₁ m 3 #[vr s_, vi 2] [(ii 2), (ii 2)] _
  refine XS.isub X0.here hx rfl (hb hby d2_3) rfl ?_
  show S_ p e below s₁ m 4 #[vr s_, vi 2] [(ii 0)] _
  refine XS.bipush X0.here hx rfl (hb hby d2_4) ?_
  show S_ p e below s₁ m 6 #[vr s_, vi 2] [(ii 31), (ii 0)] _
  refine XS.iushr X0.here hx rfl (hb hby d2_6) rfl ?_
  show S_ p e below s₁ m 7 #[vr s_, vi 2] [(ii 0)] _
  refine XS.i2b X0.here hx rfl (hb hby d2_7) rfl ?_
  show S_ p e below s₁ m 8 #[vr s_, vi 2] [(ii 0)] _
  exact retN X0 hx (t := .byte) Bd.returns (by simp) (hb hby d2_8) hr
 ·show Q_codl_2 Z s_ ks_ vs_ h0 n0 _ s₁.heap _
  rw [e0]
  exact ⟨rfl, N0, rfl⟩
theorem ef_str4_2 (m : MethodId) (x_ : Addr) (s_ : Addr) : entryFrame m #[(rr x_), (rr s_), (ii 0), (ii 2), .null] 6 = mkF m 0 #[vr x_, vr s_, vi 0, vi 2, .val .null, u_] [] := by first | (simp [entryFrame, mkF, argsToLocals, Value.category]; done) | rfl
def Q_str4_2 (Z : State) (x_ : Addr) (s_ : Addr) (ks_ : ClassId) (z_ : Int32) (c0_ : Int32) (c1_ : Int32) (h0 : Heap) (n0 : Nat) (v : Option Value) (h : Heap) (L : List Loc) : Prop := v = none ∧ Fr n0 L ∧ Keep h0 h [x_] ∧ Exa Z h x_ nm1 ∧ Fld Z h x_ nm1 "coder" "B" (ii 0) ∧ ∃ (b_ : Addr), ∃ (kb_ : ClassId), Fld Z h x_ nm1 "value" "[B" (rr b_) ∧ Arv Z h b_ kb_ .byte (2 : Int32) [(.int (nar .byte (c0_.toInt8.toInt32))), (.int (nar .byte (c1_.toInt8.toInt32)))] (ii 0) ∧ n0 ≤ b_ ∧ h0.size ≤ b_
set_option maxRecDepth 65536 in
set_option maxHeartbeats 40000000 in
theorem rm_str4_2 (l : Launch) (Z : State) (a0 : Array Value) (hw : HW Z a0) (ws : List Jvm.Cond) (x_ : Addr) (s_ : Addr) (ks_ : ClassId) (z_ : Int32) (c0_ : Int32) (c1_ : Int32) (h0 : Heap) (n0 : Nat) (O0 : Old Z n0 h0) (E0_ : Exa Z h0 x_ nm1) (F1_ : Fld Z h0 x_ nm1 "value" "[B" .null) (F2_ : Fld Z h0 x_ nm1 "coder" "B" (ii 0)) (G3_ : n0 ≤ x_) (A4_ : Arv Z h0 s_ ks_ .char (2 : Int32) [(.int c0_), (.int c1_)] (ii 0)) (ZS5_ : Sta Z Z.heap nm1 "COMPACT_STRINGS" "Z" (.int z_)) (hz_ : ¬ (z_ = (0 : Int32))) (hs0_ : ¬ ((255 : Int32) < c0_)) (hs1_ : ¬ ((255 : Int32) < c1_)) :
  MFP l Z (⟨nm1, "<init>", "([CIILjava/lang/Void;)V"⟩ : MethodName) jdk_42_method_149_code 6 none ({ frames := 2, cells := 1, slots := 2, locals := 35 } : Room) ws #[(rr x_), (rr s_), (ii 0), (ii 2), .null] h0 (Q_str4_2 Z x_ s_ ks_ z_ c0_ c1_ h0 n0) := by
 refine MetFree.of_bodySF (plainFor_of_name pn_java_lang_String) hisR ?_
 intro p e s m args below meth c s₁ Bd hml0 hP hK
 obtain ⟨rfl, hZ, hh⟩ := hP
 have hx := Bd.exec
 have hby := Bd.bytes
 have hml : c.maxLocals = 6 := hml0
 have hown : s.vm.findClass nm1 = some m.cls := findClass_of_methodNamed Bd.named
 have hnm := (name_of_methodNamed Bd.named Bd.method).1
 have X0 : Stand p l e ({ frames := 2, cells := 1, slots := 2, locals := 35 } : Room) s m #[(rr x_), (rr s_), (ii 0), (ii 2), .null] below meth c s₁ [] 0 0 := Stand.of_body Bd
 have e0 : s₁.heap = h0 := by rw [← hh, Bd.state]; rfl
 have N0 := Fr.nil n0
 have kp0 : Keep h0 h0 [x_] := Keep.refl _ _
 have c0 : ∀ t, S_ p e below s₁ m 0 #[vr x_, vr s_, vi 0, vi 2, .val .null, u_] [] t → Steps p.tables e below (s₁.setTop (entryFrame m #[(rr x_), (rr s_), (ii 0), (ii 2), .null] 6)) t := fun t k => castTop (ef_str4_2 m x_ s_) k
 generalize s₁.setTop (entryFrame m #[(rr x_), (rr s_), (ii 0), (ii 2), .null] 6) = st0 at c0 ⊢
 replace c0 : Kt p e below s₁ st0 (mkF m 0 #[vr x_, vr s_, vi 0, vi 2, .val .null, u_] []) := c0
 have c1 : Kt p e below s₁ st0 (mkF m 1 #[vr x_, vr s_, vi 0, vi 2, .val .null, u_] [(rr x_)]) := fun t k => by
  refine c0 t ?_
  show S_ p e below s₁ m 0 #[vr x_, vr s_, vi 0, vi 2, .val .null, u_] [] t
  refine XS.aloadN X0.here hx rfl (hb hby d3_0) rfl rfl ?_
  exact k
 obtain ⟨T2, X2, e2, c2⟩ := kinit X0 hx hZ hown (w15 hw) (w16 hw) (w17 hw) e0 c1 rfl hml rfl rfl (hb hby d3_1) 0 (own_w rfl) (by decide) (by decide)
 have c3 : Kt p e below T2 st0 (mkF m 27 #[vr x_, vr s_, vi 0, vi 2, .val .null, u_] []) := fun t k => by
  refine c2 t ?_
  show S_ p e below T2 m 4 #[vr x_, vr s_, vi 0, vi 2, .val .null, u_] [] t
  refine XS.iloadN X2.here hx rfl (hb hby d3_4) rfl ?_
  show S_ p e below T2 m 5 #[vr x_, vr s_, vi 0, vi 2, .val .null, u_] [(ii 2)] t
  refine yI X2.here hx rfl 5 27 rfl (hb hby d3_5) rfl rfl ?_
  exact k
 obtain ⟨T4, X4, e4, c4⟩ := kgetS X2 hx hZ hown (host := "") (Or.inl (w124 hw)) Via.refl e2 (ZS5_.ext O0.2) c3 rfl (hb hby d3_27)
 have c5 : Kt p e below T4 st0 (mkF m 36 #[vr x_, vr s_, vi 0, vi 2, .val .null, u_] [(ii 2), (ii 0), (rr s_)]) := fun t k => by
  refine c4 t ?_
  show S_ p e below T4 m 30 #[vr x_, vr s_, vi 0, vi 2, .val .null, u_] [(.int z_)] t
  refine XS.ifNo X4.here hx rfl (hb hby d3_30) rfl ((if0 _ _).trans (feq hz_).1) ?_
  show S_ p e below T4 m 33 #[vr x_, vr s_, vi 0, vi 2, .val .null, u_] [] t
  refine XS.aloadN X4.here hx rfl (hb hby d3_33) rfl rfl ?_
  show S_ p e below T4 m 34 #[vr x_, vr s_, vi 0, vi 2, .val .null, u_] [(rr s_)] t
  refine XS.iloadN X4.here hx rfl (hb hby d3_34) rfl ?_
  show S_ p e below T4 m 35 #[vr x_, vr s_, vi 0, vi 2, .val .null, u_] [(ii 0), (rr s_)] t
  refine XS.iloadN X4.here hx rfl (hb hby d3_35) rfl ?_
  exact k
 obtain ⟨_, T6, L6, X6, hQ6, c6⟩ := kstat X4 hx hZ hown (w125 hw) (w126 hw) (w127 hw) (w128 hw) (rm_cmp3_2 l Z a0 hw [] s_ ks_ c0_ c1_ h0 n0 O0 A4_ hs0_ hs1_) e4 c5 hml pd_pACIIrAB [(rr s_), (ii 0), (ii 2)] [] 0 (hb hby d3_36) rfl rfl rfl rfl rfl rfl
 obtain ⟨b7, k8, rfl, N9q, K10, p11, p12, p13⟩ := hQ6
 have N9 := Fr.app N0 N9q
 have o14 := O0.keep K10 all0
 have kp15 := kp0.trans K10 all0
 have z16 := Nat.le_trans kp0.1 p13
 have g17 := Nat.le_trans (Nat.le_trans (Nat.le_of_eq O0.1.symm) O0.2.1) p13
 have c18 : Kt p e below T6 st0 (mkF m 45 #[vr x_, vr s_, vi 0, vi 2, .val .null, vr b7] [(ii 2), (rr b7), (rr x_)]) := fun t k => by
  refine c6 t ?_
  show S_ p e below T6 m 39 #[vr x_, vr s_, vi 0, vi 2, .val .null, u_] [(rr b7)] t
  refine XS.astore X6.here hx rfl (hb hby d3_39) rfl rfl (l' := #[vr x_, vr s_, vi 0, vi 2, .val .null, vr b7]) rfl ?_
  show S_ p e below T6 m 41 #[vr x_, vr s_, vi 0, vi 2, .val .null, vr b7] [] t
  refine XS.aloadN X6.here hx rfl (hb hby d3_41) rfl rfl ?_
  show S_ p e below T6 m 42 #[vr x_, vr s_, vi 0, vi 2, .val .null, vr b7] [(rr x_)] t
  refine XS.aload X6.here hx rfl (hb hby d3_42) rfl rfl ?_
  show S_ p e below T6 m 44 #[vr x_, vr s_, vi 0, vi 2, .val .null, vr b7] [(rr b7), (rr x_)] t
  refine XS.iloadN X6.here hx rfl (hb hby d3_44) rfl ?_
  exact k
 obtain ⟨_, T19, L19, X19, hQ19, c19⟩ := kstat X6 hx hZ hown (w132 hw) (w133 hw) (w127 hw) (w134 hw) (rm_codl_2 l Z a0 hw [] b7 k8 [(.int (nar .byte (c0_.toInt8.toInt32))), (.int (nar .byte (c1_.toInt8.toInt32)))] T6.heap n0 o14 p11) rfl c18 hml pd_pABIrB [(rr b7), (ii 2)] [(rr x_)] 1 (hb hby d3_45) rfl rfl rfl rfl rfl rfl
 obtain ⟨rfl, N20q, K21⟩ := hQ19
 have N20 := Fr.app N9 N20q
 obtain ⟨T22, h22, X22, e22, W22, f23, o25, N24, c22⟩ := kput X19 hx hZ .byte hown (host := "") (Or.inl (w25 hw)) Via.refl K21 (F2_.keep K10 nin0) (E0_.keep K10) (Or.inr ⟨(w21 hw), rfl, hnm⟩) (w5 hw) c19 rfl rfl (hb hby d3_48) (by decide) rfl rfl o14 N20 G3_
 have kp26 := kp15.wr W22 (Or.inl (List.mem_of_getElem? (i := 0) rfl))
 have f27 := (F1_.keep K10 nin0).other W22 (Or.inr (slot_ne (Or.inr (w20 hw)) (Or.inr (w21 hw)) (by decide) (t := (.array .byte)) (t' := .byte) (by decide) (by decide)))
 have c28 : Kt p e below T22 st0 (mkF m 54 #[vr x_, vr s_, vi 0, vi 2, .val .null, vr b7] [(rr b7), (rr x_)]) := fun t k => by
  refine c22 t ?_
  show S_ p e below T22 m 51 #[vr x_, vr s_, vi 0, vi 2, .val .null, vr b7] [] t
  refine XS.aloadN X22.here hx rfl (hb hby d3_51) rfl rfl ?_
  show S_ p e below T22 m 52 #[vr x_, vr s_, vi 0, vi 2, .val .null, vr b7] [(rr x_)] t
  refine XS.aload X22.here hx rfl (hb hby d3_52) rfl rfl ?_
  exact k
 obtain ⟨T29, h29, X29, e29, W29, f30, o32, N31, c29⟩ := kput X22 hx hZ (.array .byte) hown (host := "") (Or.inl (w24 hw)) Via.refl e22 f27 ((E0_.keep K10).wr W22) (Or.inr ⟨(w20 hw), rfl, hnm⟩) (w5 hw) c28 rfl rfl (hb hby d3_54) (by decide) rfl rfl o25 N24 G3_
 have kp33 := kp26.wr W29 (Or.inl (List.mem_of_getElem? (i := 0) rfl))
 have f34 := f23.other W29 (Or.inr (slot_ne (Or.inr (w21 hw)) (Or.inr (w20 hw)) (by decide) (t := .byte) (t' := (.array .byte)) (by decide) (by decide)))
 have q35 := Ne.symm (Nat.ne_of_lt (Nat.lt_of_lt_of_le E0_.lt p13))
 obtain ⟨fs, hr, hrun, hended, hW, hsame⟩ := X29.leave (v := none) (fun _ => rfl)
 refine ⟨_, _, c29 _ ?_, hrun, hended, _, _, rfl, ?_, ⟨_, rfl⟩, hW, hsame.mono (by decide) (by decide)⟩
 ·show S_ p e below T29 m 57 #[vr x_, vr s_, vi 0, vi 2, .val .null, vr b7] [] _
  exact X29.returnOut hx Bd.returns (hb hby d3_57) hr
 ·show Q_str4_2 Z x_ s_ ks_ z_ c0_ c1_ h0 n0 _ T29.heap _
  rw [e29]
  exact ⟨rfl, N31, kp33, (((E0_.keep K10).wr W22).wr W29), f34, b7, k8, f30, ((p11.other W22 q35).other W29 q35), g17, z16⟩
theorem ef_str1_2 (m : MethodId) (x_ : Addr) (s_ : Addr) : entryFrame m #[(rr x_), (rr s_)] 2 = mkF m 0 #[vr x_, vr s_] [] := by first | (simp [entryFrame, mkF, argsToLocals, Value.category]; done) | rfl
def Q_str1_2 (Z : State) (x_ : Addr) (s_ : Addr) (ks_ : ClassId) (z_ : Int32) (c0_ : Int32) (c1_ : Int32) (h0 : Heap) (n0 : Nat) (v : Option Value) (h : Heap) (L : List Loc) : Prop := v = none ∧ Fr n0 L ∧ Keep h0 h [x_] ∧ Exa Z h x_ nm1 ∧ Fld Z h x_ nm1 "coder" "B" (ii 0) ∧ ∃ (b_ : Addr), ∃ (kb_ : ClassId), Fld Z h x_ nm1 "value" "[B" (rr b_) ∧ Arv Z h b_ kb_ .byte (2 : Int32) [(.int (nar .byte (c0_.toInt8.toInt32))), (.int (nar .byte (c1_.toInt8.toInt32)))] (ii 0) ∧ n0 ≤ b_ ∧ h0.size ≤ b_
set_option maxRecDepth 65536 in
set_option maxHeartbeats 40000000 in
theorem rm_str1_2 (l : Launch) (Z : State) (a0 : Array Value) (hw : HW Z a0) (ws : List Jvm.Cond) (x_ : Addr) (s_ : Addr) (ks_ : ClassId) (z_ : Int32) (c0_ : Int32) (c1_ : Int32) (h0 : Heap) (n0 : Nat) (O0 : Old Z n0 h0) (E0_ : Exa Z h0 x_ nm1) (F1_ : Fld Z h0 x_ nm1 "value" "[B" .null) (F2_ : Fld Z h0 x_ nm1 "coder" "B" (ii 0)) (G3_ : n0 ≤ x_) (A4_ : Arv Z h0 s_ ks_ .char (2 : Int32) [(.int c0_), (.int c1_)] (ii 0)) (ZS5_ : Sta Z Z.heap nm1 "COMPACT_STRINGS" "Z" (.int z_)) (hz_ : ¬ (z_ = (0 : Int32))) (hs0_ : ¬ ((255 : Int32) < c0_)) (hs1_ : ¬ ((255 : Int32) < c1_)) :
  MFP l Z (⟨nm1, "<init>", "([C)V"⟩ : MethodName) jdk_42_method_3_code 2 none ({ frames := 3, cells := 1, slots := 2, locals := 52 } : Room) ws #[(rr x_), (rr s_)] h0 (Q_str1_2 Z x_ s_ ks_ z_ c0_ c1_ h0 n0) := by
 refine MetFree.of_bodySF (plainFor_of_name pn_java_lang_String) hisR ?_
 intro p e s m args below meth c s₁ Bd hml0 hP hK
 obtain ⟨rfl, hZ, hh⟩ := hP
 have hx := Bd.exec
 have hby := Bd.bytes
 have hml : c.maxLocals = 2 := hml0
 have hown : s.vm.findClass nm1 = some m.cls := findClass_of_methodNamed Bd.named
 have hnm := (name_of_methodNamed Bd.named Bd.method).1
 have X0 : Stand p l e ({ frames := 3, cells := 1, slots := 2, locals := 52 } : Room) s m #[(rr x_), (rr s_)] below meth c s₁ [] 0 0 := Stand.of_body Bd
 have e0 : s₁.heap = h0 := by rw [← hh, Bd.state]; rfl
 have N0 := Fr.nil n0
 have kp0 : Keep h0 h0 [x_] := Keep.refl _ _
 have c0 : ∀ t, S_ p e below s₁ m 0 #[vr x_, vr s_] [] t → Steps p.tables e below (s₁.setTop (entryFrame m #[(rr x_), (rr s_)] 2)) t := fun t k => castTop (ef_str1_2 m x_ s_) k
 generalize s₁.setTop (entryFrame m #[(rr x_), (rr s_)] 2) = st0 at c0 ⊢
 replace c0 : Kt p e below s₁ st0 (mkF m 0 #[vr x_, vr s_] []) := c0
 have c1 : Kt p e below s₁ st0 (mkF m 6 #[vr x_, vr s_] [.null, (ii 2), (ii 0), (rr s_), (rr x_)]) := fun t k => by
  refine c0 t ?_
  show S_ p e below s₁ m 0 #[vr x_, vr s_] [] t
  refine XS.aloadN X0.here hx rfl (hb hby d4_0) rfl rfl ?_
  show S_ p e below s₁ m 1 #[vr x_, vr s_] [(rr x_)] t
  refine XS.aloadN X0.here hx rfl (hb hby d4_1) rfl rfl ?_
  show S_ p e below s₁ m 2 #[vr x_, vr s_] [(rr s_), (rr x_)] t
  refine XS.iconst X0.here hx rfl (hb hby d4_2) ?_
  show S_ p e below s₁ m 3 #[vr x_, vr s_] [(ii 0), (rr s_), (rr x_)] t
  refine XS.aloadN X0.here hx rfl (hb hby d4_3) rfl rfl ?_
  show S_ p e below s₁ m 4 #[vr x_, vr s_] [(rr s_), (ii 0), (rr s_), (rr x_)] t
  refine ldLen X0 hx hZ e0 A4_ rfl rfl (hb hby d4_4) ?_
  show S_ p e below s₁ m 5 #[vr x_, vr s_] [(ii 2), (ii 0), (rr s_), (rr x_)] t
  refine XS.aconstNull X0.here hx rfl (hb hby d4_5) ?_
  exact k
 obtain ⟨_, T2, L2, X2, hQ2, c2⟩ := kspec X0 hx hZ hown (w11 hw) (w12 hw) (w6 hw) (w14 hw) (rm_str4_2 l Z a0 hw [] x_ s_ ks_ z_ c0_ c1_ h0 n0 O0 E0_ F1_ F2_ G3_ A4_ ZS5_ hz_ hs0_ hs1_) e0 c1 hml pd_pACIILjava_lang_Void_rV x_ [(rr s_), (ii 0), (ii 2), .null] [] 0 (hb hby d4_6) rfl rfl rfl rfl rfl rfl
 obtain ⟨rfl, N3q, K4, p5, p6, b7, k8, p9, p10, p11, p12⟩ := hQ2
 have N3 := Fr.app N0 N3q
 have o13 := O0.keep K4 (allS G3_ all0)
 have kp14 := kp0.trans K4 (allS (Or.inl (List.mem_of_getElem? (i := 0) rfl)) all0)
 have z15 := Nat.le_trans kp0.1 p12
 have g16 := Nat.le_trans (Nat.le_trans (Nat.le_of_eq O0.1.symm) O0.2.1) p12
 obtain ⟨fs, hr, hrun, hended, hW, hsame⟩ := X2.leave (v := none) (fun _ => rfl)
 refine ⟨_, _, c2 _ ?_, hrun, hended, _, _, rfl, ?_, ⟨_, rfl⟩, hW, hsame.mono (by decide) (by decide)⟩
 ·show S_ p e below T2 m 9 #[vr x_, vr s_] [] _
  exact X2.returnOut hx Bd.returns (hb hby d4_9) hr
 ·show Q_str1_2 Z x_ s_ ks_ z_ c0_ c1_ h0 n0 _ T2.heap _
  exact ⟨rfl, N3, kp14, p5, p6, b7, k8, p9, p10, g16, z15⟩
theorem ef_cmp5_3 (m : MethodId) (s_ : Addr) (d_ : Addr) : entryFrame m #[(rr s_), (ii 0), (rr d_), (ii 0), (ii 3)] 7 = mkF m 0 #[vr s_, vi 0, vr d_, vi 0, vi 3, u_, u_] [] := by first | (simp [entryFrame, mkF, argsToLocals, Value.category]; done) | rfl
def Q_cmp5_3 (Z : State) (s_ : Addr) (ks_ : ClassId) (d_ : Addr) (kd_ : ClassId) (c0_ : Int32) (c1_ : Int32) (c2_ : Int32) (h0 : Heap) (n0 : Nat) (v : Option Value) (h : Heap) (L : List Loc) : Prop := v = some (ii 3) ∧ Fr n0 L ∧ Keep h0 h [d_] ∧ Arv Z h d_ kd_ .byte (3 : Int32) [(.int (nar .byte (c0_.toInt8.toInt32))), (.int (nar .byte (c1_.toInt8.toInt32))), (.int (nar .byte (c2_.toInt8.toInt32)))] (ii 0)
set_option maxRecDepth 65536 in
set_option maxHeartbeats 40000000 in
theorem rm_cmp5_3 (l : Launch) (Z : State) (a0 : Array Value) (hw : HW Z a0) (ws : List Jvm.Cond) (s_ : Addr) (ks_ : ClassId) (d_ : Addr) (kd_ : ClassId) (c0_ : Int32) (c1_ : Int32) (c2_ : Int32) (h0 : Heap) (n0 : Nat) (O0 : Old Z n0 h0) (A0_ : Arv Z h0 s_ ks_ .char (3 : Int32) [(.int c0_), (.int c1_), (.int c2_)] (ii 0)) (A1_ : Arv Z h0 d_ kd_ .byte (3 : Int32) [(ii 0), (ii 0), (ii 0)] (ii 0)) (G2_ : n0 ≤ d_) (NE3_ : s_ ≠ d_) (hs0_ : ¬ ((255 : Int32) < c0_)) (hs1_ : ¬ ((255 : Int32) < c1_)) (hs2_ : ¬ ((255 : Int32) < c2_)) :
  MFP l Z (⟨nm5, "compress", "([CI[BII)I"⟩ : MethodName) jdk_52_method_21_code 7 (some .int) ({ frames := 0, cells := 0, slots := 0, locals := 0 } : Room) ws #[(rr s_), (ii 0), (rr d_), (ii 0), (ii 3)] h0 (Q_cmp5_3 Z s_ ks_ d_ kd_ c0_ c1_ c2_ h0 n0) := by
 refine MetFree.of_bodySF (plainFor_of_name pn_java_lang_StringUTF16) hisR ?_
 intro p e s m args below meth c s₁ Bd hml0 hP hK
 obtain ⟨rfl, hZ, hh⟩ := hP
 have hx := Bd.exec
 have hby := Bd.bytes
 have hml : c.maxLocals = 7 := hml0
 have hown : s.vm.findClass nm5 = some m.cls := findClass_of_methodNamed Bd.named
 have hnm := (name_of_methodNamed Bd.named Bd.method).1
 have X0 : Stand p l e ({ frames := 0, cells := 0, slots := 0, locals := 0 } : Room) s m #[(rr s_), (ii 0), (rr d_), (ii 0), (ii 3)] below meth c s₁ [] 0 0 := Stand.of_body Bd
 have e0 : s₁.heap = h0 := by rw [← hh, Bd.state]; rfl
 have N0 := Fr.nil n0
 have kp0 : Keep h0 h0 [d_] := Keep.refl _ _
 have c0 : ∀ t, S_ p e below s₁ m 0 #[vr s_, vi 0, vr d_, vi 0, vi 3, u_, u_] [] t → Steps p.tables e below (s₁.setTop (entryFrame m #[(rr s_), (ii 0), (rr d_), (ii 0), (ii 3)] 7)) t := fun t k => castTop (ef_cmp5_3 m s_ d_) k
 generalize s₁.setTop (entryFrame m #[(rr s_), (ii 0), (rr d_), (ii 0), (ii 3)] 7) = st0 at c0 ⊢
 replace c0 : Kt p e below s₁ st0 (mkF m 0 #[vr s_, vi 0, vr d_, vi 0, vi 3, u_, u_] []) := c0
 have c1 : Kt p e below s₁ st0 (mkF m 31 #[vr s_, vi 0, vr d_, vi 0, vi 3, vi 0, vi c0_] [(.int (c0_.toInt8.toInt32)), (ii 0), (rr d_)]) := fun t k => by
  refine c0 t ?_
  show S_ p e below s₁ m 0 #[vr s_, vi 0, vr d_, vi 0, vi 3, u_, u_] [] t
  refine XS.iconst X0.here hx rfl (hb hby d0_0) ?_
  show S_ p e below s₁ m 1 #[vr s_, vi 0, vr d_, vi 0, vi 3, u_, u_] [(ii 0)] t
  refine XS.istore X0.here hx rfl (hb hby d0_1) rfl (l' := #[vr s_, vi 0, vr d_, vi 0, vi 3, vi 0, u_]) rfl ?_
  show S_ p e below s₁ m 3 #[vr s_, vi 0, vr d_, vi 0, vi 3, vi 0, u_] [] t
  refine XS.iload X0.here hx rfl (hb hby d0_3) rfl ?_
  show S_ p e below s₁ m 5 #[vr s_, vi 0, vr d_, vi 0, vi 3, vi 0, u_] [(ii 0)] t
  refine XS.iload X0.here hx rfl (hb hby d0_5) rfl ?_
  show S_ p e below s₁ m 7 #[vr s_, vi 0, vr d_, vi 0, vi 3, vi 0, u_] [(ii 3), (ii 0)] t
  refine XS.icmpNo X0.here hx rfl (hb hby d0_7) rfl rfl ?_
  show S_ p e below s₁ m 10 #[vr s_, vi 0, vr d_, vi 0, vi 3, vi 0, u_] [] t
  refine XS.aloadN X0.here hx rfl (hb hby d0_10) rfl rfl ?_
  show S_ p e below s₁ m 11 #[vr s_, vi 0, vr d_, vi 0, vi 3, vi 0, u_] [(rr s_)] t
  refine XS.iloadN X0.here hx rfl (hb hby d0_11) rfl ?_
  show S_ p e below s₁ m 12 #[vr s_, vi 0, vr d_, vi 0, vi 3, vi 0, u_] [(ii 0), (rr s_)] t
  refine ldC X0 hx hZ e0 A0_ (v := (.int c0_)) (by decide) (by decide) rfl rfl rfl (hb hby d0_12) ?_
  show S_ p e below s₁ m 13 #[vr s_, vi 0, vr d_, vi 0, vi 3, vi 0, u_] [(.int c0_)] t
  refine XS.istore X0.here hx rfl (hb hby d0_13) rfl (l' := #[vr s_, vi 0, vr d_, vi 0, vi 3, vi 0, vi c0_]) rfl ?_
  show S_ p e below s₁ m 15 #[vr s_, vi 0, vr d_, vi 0, vi 3, vi 0, vi c0_] [] t
  refine XS.iload X0.here hx rfl (hb hby d0_15) rfl ?_
  show S_ p e below s₁ m 17 #[vr s_, vi 0, vr d_, vi 0, vi 3, vi 0, vi c0_] [(.int c0_)] t
  refine XS.sipush X0.here hx rfl (hb hby d0_17) ?_
  show S_ p e below s₁ m 20 #[vr s_, vi 0, vr d_, vi 0, vi 3, vi 0, vi c0_] [(ii 255), (.int c0_)] t
  refine yC X0.here hx rfl 20 26 rfl (hb hby d0_20) rfl (flt hs0_).2.2.2 ?_
  show S_ p e below s₁ m 26 #[vr s_, vi 0, vr d_, vi 0, vi 3, vi 0, vi c0_] [] t
  refine XS.aloadN X0.here hx rfl (hb hby d0_26) rfl rfl ?_
  show S_ p e below s₁ m 27 #[vr s_, vi 0, vr d_, vi 0, vi 3, vi 0, vi c0_] [(rr d_)] t
  refine XS.iloadN X0.here hx rfl (hb hby d0_27) rfl ?_
  show S_ p e below s₁ m 28 #[vr s_, vi 0, vr d_, vi 0, vi 3, vi 0, vi c0_] [(ii 0), (rr d_)] t
  refine XS.iload X0.here hx rfl (hb hby d0_28) rfl ?_
  show S_ p e below s₁ m 30 #[vr s_, vi 0, vr d_, vi 0, vi 3, vi 0, vi c0_] [(.int c0_), (ii 0), (rr d_)] t
  refine XS.i2b X0.here hx rfl (hb hby d0_30) rfl ?_
  exact k
 obtain ⟨T2, h2, X2, e2, W2, f5, o3, N4, c2⟩ := kstB X0 hx hZ e0 A1_ (j := (0 : Int32)) (by decide) (by decide) 0 rfl (Nat.le_of_ble_eq_true rfl) c1 rfl rfl (hb hby d0_31) O0 N0 G2_
 have f6 : Arv Z h2 d_ kd_ .byte (3 : Int32) [(.int (nar .byte (c0_.toInt8.toInt32))), (ii 0), (ii 0)] (ii 0) := f5
 have kp7 := kp0.wr W2 (Or.inl (List.mem_of_getElem? (i := 0) rfl))
 have c8 : Kt p e below T2 st0 (mkF m 31 #[vr s_, vi 1, vr d_, vi 1, vi 3, vi 1, vi c1_] [(.int (c1_.toInt8.toInt32)), (ii 1), (rr d_)]) := fun t k => by
  refine c2 t ?_
  show S_ p e below T2 m 32 #[vr s_, vi 0, vr d_, vi 0, vi 3, vi 0, vi c0_] [] t
  refine XS.iinc X2.here hx rfl (hb hby d0_32) rfl (l' := #[vr s_, vi 1, vr d_, vi 0, vi 3, vi 0, vi c0_]) rfl ?_
  show S_ p e below T2 m 35 #[vr s_, vi 1, vr d_, vi 0, vi 3, vi 0, vi c0_] [] t
  refine XS.iinc X2.here hx rfl (hb hby d0_35) rfl (l' := #[vr s_, vi 1, vr d_, vi 1, vi 3, vi 0, vi c0_]) rfl ?_
  show S_ p e below T2 m 38 #[vr s_, vi 1, vr d_, vi 1, vi 3, vi 0, vi c0_] [] t
  refine XS.iinc X2.here hx rfl (hb hby d0_38) rfl (l' := #[vr s_, vi 1, vr d_, vi 1, vi 3, vi 1, vi c0_]) rfl ?_
  show S_ p e below T2 m 41 #[vr s_, vi 1, vr d_, vi 1, vi 3, vi 1, vi c0_] [] t
  refine yG X2.here hx rfl 41 3 rfl (hb hby d0_41) ?_
  show S_ p e below T2 m 3 #[vr s_, vi 1, vr d_, vi 1, vi 3, vi 1, vi c0_] [] t
  refine XS.iload X2.here hx rfl (hb hby d0_3) rfl ?_
  show S_ p e below T2 m 5 #[vr s_, vi 1, vr d_, vi 1, vi 3, vi 1, vi c0_] [(ii 1)] t
  refine XS.iload X2.here hx rfl (hb hby d0_5) rfl ?_
  show S_ p e below T2 m 7 #[vr s_, vi 1, vr d_, vi 1, vi 3, vi 1, vi c0_] [(ii 3), (ii 1)] t
  refine XS.icmpNo X2.here hx rfl (hb hby d0_7) rfl rfl ?_
  show S_ p e below T2 m 10 #[vr s_, vi 1, vr d_, vi 1, vi 3, vi 1, vi c0_] [] t
  refine XS.aloadN X2.here hx rfl (hb hby d0_10) rfl rfl ?_
  show S_ p e below T2 m 11 #[vr s_, vi 1, vr d_, vi 1, vi 3, vi 1, vi c0_] [(rr s_)] t
  refine XS.iloadN X2.here hx rfl (hb hby d0_11) rfl ?_
  show S_ p e below T2 m 12 #[vr s_, vi 1, vr d_, vi 1, vi 3, vi 1, vi c0_] [(ii 1), (rr s_)] t
  refine ldC X2 hx hZ e2 (A0_.other W2 NE3_) (v := (.int c1_)) (by decide) (by decide) rfl rfl rfl (hb hby d0_12) ?_
  show S_ p e below T2 m 13 #[vr s_, vi 1, vr d_, vi 1, vi 3, vi 1, vi c0_] [(.int c1_)] t
  refine XS.istore X2.here hx rfl (hb hby d0_13) rfl (l' := #[vr s_, vi 1, vr d_, vi 1, vi 3, vi 1, vi c1_]) rfl ?_
  show S_ p e below T2 m 15 #[vr s_, vi 1, vr d_, vi 1, vi 3, vi 1, vi c1_] [] t
  refine XS.iload X2.here hx rfl (hb hby d0_15) rfl ?_
  show S_ p e below T2 m 17 #[vr s_, vi 1, vr d_, vi 1, vi 3, vi 1, vi c1_] [(.int c1_)] t
  refine XS.sipush X2.here hx rfl (hb hby d0_17) ?_
  show S_ p e below T2 m 20 #[vr s_, vi 1, vr d_, vi 1, vi 3, vi 1, vi c1_] [(ii 255), (.int c1_)] t
  refine yC X2.here hx rfl 20 26 rfl (hb hby d0_20) rfl (flt hs1_).2.2.2 ?_
  show S_ p e below T2 m 26 #[vr s_, vi 1, vr d_, vi 1, vi 3, vi 1, vi c1_] [] t
  refine XS.aloadN X2.here hx rfl (hb hby d0_26) rfl rfl ?_
  show S_ p e below T2 m 27 #[vr s_, vi 1, vr d_, vi 1, vi 3, vi 1, vi c1_] [(rr d_)] t
  refine XS.iloadN X2.here hx rfl (hb hby d0_27) rfl ?_
  show S_ p e below T2 m 28 #[vr s_, vi 1, vr d_, vi 1, vi 3, vi 1, vi c1_] [(ii 1), (rr d_)] t
  refine XS.iload X2.here hx rfl (hb hby d0_28) rfl ?_
  show S_ p e below T2 m 30 #[vr s_, vi 1, vr d_, vi 1, vi 3, vi 1, vi c1_] [(.int c1_), (ii 1), (rr d_)] t
  refine XS.i2b X2.here hx rfl (hb hby d0_30) rfl ?_
  exact k
 obtain ⟨T9, h9, X9, e9, W9, f12, o10, N11, c9⟩ := kstB X2 hx hZ e2 f6 (j := (1 : Int32)) (by decide) (by decide) 1 rfl (Nat.le_of_ble_eq_true rfl) c8 rfl rfl (hb hby d0_31) o3 N4 G2_
 have f13 : Arv Z h9 d_ kd_ .byte (3 : Int32) [(.int (nar .byte (c0_.toInt8.toInt32))), (.int (nar .byte (c1_.toInt8.toInt32))), (ii 0)] (ii 0) := f12
 have kp14 := kp7.wr W9 (Or.inl (List.mem_of_getElem? (i := 0) rfl))
 have c15 : Kt p e below T9 st0 (mkF m 31 #[vr s_, vi 2, vr d_, vi 2, vi 3, vi 2, vi c2_] [(.int (c2_.toInt8.toInt32)), (ii 2), (rr d_)]) := fun t k => by
  refine c9 t ?_
  show S_ p e below T9 m 32 #[vr s_, vi 1, vr d_, vi 1, vi 3, vi 1, vi c1_] [] t
  refine XS.iinc X9.here hx rfl (hb hby d0_32) rfl (l' := #[vr s_, vi 2, vr d_, vi 1, vi 3, vi 1, vi c1_]) rfl ?_
  show S_ p e below T9 m 35 #[vr s_, vi 2, vr d_, vi 1, vi 3, vi 1, vi c1_] [] t
  refine XS.iinc X9.here hx rfl (hb hby d0_35) rfl (l' := #[vr s_, vi 2, vr d_, vi 2, vi 3, vi 1, vi c1_]) rfl ?_
  show S_ p e below T9 m 38 #[vr s_, vi 2, vr d_, vi 2, vi 3, vi 1, vi c1_] [] t
  refine XS.iinc X9.here hx rfl (hb hby d0_38) rfl (l' := #[vr s_, vi 2, vr d_, vi 2, vi 3, vi 2, vi c1_]) rfl ?_
  show S_ p e below T9 m 41 #[vr s_, vi 2, vr d_, vi 2, vi 3, vi 2, vi c1_] [] t
  refine yG X9.here hx rfl 41 3 rfl (hb hby d0_41) ?_
  show S_ p e below T9 m 3 #[vr s_, vi 2, vr d_, vi 2, vi 3, vi 2, vi c1_] [] t
  refine XS.iload X9.here hx rfl (hb hby d0_3) rfl ?_
  show S_ p e below T9 m 5 #[vr s_, vi 2, vr d_, vi 2, vi 3, vi 2, vi c1_] [(ii 2)] t
  refine XS.iload X9.here hx rfl (hb hby d0_5) rfl ?_
  show S_ p e below T9 m 7 #[vr s_, vi 2, vr d_, vi 2, vi 3, vi 2, vi c1_] [(ii 3), (ii 2)] t
  refine XS.icmpNo X9.here hx rfl (hb hby d0_7) rfl rfl ?_
  show S_ p e below T9 m 10 #[vr s_, vi 2, vr d_, vi 2, vi 3, vi 2, vi c1_] [] t
  refine XS.aloadN X9.here hx rfl (hb hby d0_10) rfl rfl ?_
  show S_ p e below T9 m 11 #[vr s_, vi 2, vr d_, vi 2, vi 3, vi 2, vi c1_] [(rr s_)] t
  refine XS.iloadN X9.here hx rfl (hb hby d0_11) rfl ?_
  show S_ p e below T9 m 12 #[vr s_, vi 2, vr d_, vi 2, vi 3, vi 2, vi c1_] [(ii 2), (rr s_)] t
  refine ldC X9 hx hZ e9 ((A0_.other W2 NE3_).other W9 NE3_) (v := (.int c2_)) (by decide) (by decide) rfl rfl rfl (hb hby d0_12) ?_
  show S_ p e below T9 m 13 #[vr s_, vi 2, vr d_, vi 2, vi 3, vi 2, vi c1_] [(.int c2_)] t
  refine XS.istore X9.here hx rfl (hb hby d0_13) rfl (l' := #[vr s_, vi 2, vr d_, vi 2, vi 3, vi 2, vi c2_]) rfl ?_
  show S_ p e below T9 m 15 #[vr s_, vi 2, vr d_, vi 2, vi 3, vi 2, vi c2_] [] t
  refine XS.iload X9.here hx rfl (hb hby d0_15) rfl ?_
  show S_ p e below T9 m 17 #[vr s_, vi 2, vr d_, vi 2, vi 3, vi 2, vi c2_] [(.int c2_)] t
  refine XS.sipush X9.here hx rfl (hb hby d0_17) ?_
  show S_ p e below T9 m 20 #[vr s_, vi 2, vr d_, vi 2, vi 3, vi 2, vi c2_] [(ii 255), (.int c2_)] t
  refine yC X9.here hx rfl 20 26 rfl (hb hby d0_20) rfl (flt hs2_).2.2.2 ?_
  show S_ p e below T9 m 26 #[vr s_, vi 2, vr d_, vi 2, vi 3, vi 2, vi c2_] [] t
  refine XS.aloadN X9.here hx rfl (hb hby d0_26) rfl rfl ?_
  show S_ p e below T9 m 27 #[vr s_, vi 2, vr d_, vi 2, vi 3, vi 2, vi c2_] [(rr d_)] t
  refine XS.iloadN X9.here hx rfl (hb hby d0_27) rfl ?_
  show S_ p e below T9 m 28 #[vr s_, vi 2, vr d_, vi 2, vi 3, vi 2, vi c2_] [(ii 2), (rr d_)] t
  refine XS.iload X9.here hx rfl (hb hby d0_28) rfl ?_
  show S_ p e below T9 m 30 #[vr s_, vi 2, vr d_, vi 2, vi 3, vi 2, vi c2_] [(.int c2_), (ii 2), (rr d_)] t
  refine XS.i2b X9.here hx rfl (hb hby d0_30) rfl ?_
  exact k
 obtain ⟨T16, h16, X16, e16, W16, f19, o17, N18, c16⟩ := kstB X9 hx hZ e9 f13 (j := (2 : Int32)) (by decide) (by decide) 2 rfl (Nat.le_of_ble_eq_true rfl) c15 rfl rfl (hb hby d0_31) o10 N11 G2_
 have f20 : Arv Z h16 d_ kd_ .byte (3 : Int32) [(.int (nar .byte (c0_.toInt8.toInt32))), (.int (nar .byte (c1_.toInt8.toInt32))), (.int (nar .byte (c2_.toInt8.toInt32)))] (ii 0) := f19
 have kp21 := kp14.wr W16 (Or.inl (List.mem_of_getElem? (i := 0) rfl))
 obtain ⟨fs, hr, hrun, hended, hW, hsame⟩ := X16.leave (v := some (ii 3)) (fun h => by rw [Bd.returns] at h; cases h)
 refine ⟨_, _, c16 _ ?_, hrun, hended, _, _, rfl, ?_, ⟨_, rfl⟩, hW, hsame.mono (by decide) (by decide)⟩
 ·show S_ p e below T16 m 32 #[vr s_, vi 2, vr d_, vi 2, vi 3, vi 2, vi c2_] [] _
  refine XS.iinc X16.here hx rfl (hb hby d0_32) rfl (l' := #[vr s_, vi 3, vr d_, vi 2, vi 3, vi 2, vi c2_]) rfl ?_
  show S_ p e below T16 m 35 #[vr s_, vi 3, vr d_, vi 2, vi 3, vi 2, vi c2_] [] _
  refine XS.iinc X16.here hx rfl (hb hby d0_35) rfl (l' := #[vr s_, vi 3, vr d_, vi 3, vi 3, vi 2, vi c2_]) rfl ?_
  show S_ p e below T16 m 38 #[vr s_, vi 3, vr d_, vi 3, vi 3, vi 2, vi c2_] [] _
  refine XS.iinc X16.here hx rfl (hb hby d0_38) rfl (l' := #[vr s_, vi 3, vr d_, vi 3, vi 3, vi 3, vi c2_]) rfl ?_
  show S_ p e below T16 m 41 #[vr s_, vi 3, vr d_, vi 3, vi 3, vi 3, vi c2_] [] _
  refine yG X16.here hx rfl 41 3 rfl (hb hby d0_41) ?_
  show S_ p e below T16 m 3 #[vr s_, vi 3, vr d_, vi 3, vi 3, vi 3, vi c2_] [] _
  refine XS.iload X16.here hx rfl (hb hby d0_3) rfl ?_
  show S_ p e below T16 m 5 #[vr s_, vi 3, vr d_, vi 3, vi 3, vi 3, vi c2_] [(ii 3)] _
  refine XS.iload X16.here hx rfl (hb hby d0_5) rfl ?_
  show S_ p e below T16 m 7 #[vr s_, vi 3, vr d_, vi 3, vi 3, vi 3, vi c2_] [(ii 3), (ii 3)] _
  refine yC X16.here hx rfl 7 44 rfl (hb hby d0_7) rfl rfl ?_
  show S_ p e below T16 m 44 #[vr s_, vi 3, vr d_, vi 3, vi 3, vi 3, vi c2_] [] _
  refine XS.iload X16.here hx rfl (hb hby d0_44) rfl ?_
  show S_ p e below T16 m 46 #[vr s_, vi 3, vr d_, vi 3, vi 3, vi 3, vi c2_] [(ii 3)] _
  exact retOut X16 hx Bd.returns rfl (Or.inl ⟨rfl, Or.inl rfl, _, rfl⟩) (hb hby d0_46) hr
 ·show Q_cmp5_3 Z s_ ks_ d_ kd_ c0_ c1_ c2_ h0 n0 _ T16.heap _
  rw [e16]
  exact ⟨rfl, N18, kp21, f20⟩
theorem ef_cmp3_3 (m : MethodId) (s_ : Addr) : entryFrame m #[(rr s_), (ii 0), (ii 3)] 6 = mkF m 0 #[vr s_, vi 0, vi 3, u_, u_, u_] [] := by first | (simp [entryFrame, mkF, argsToLocals, Value.category]; done) | rfl
def Q_cmp3_3 (Z : State) (s_ : Addr) (ks_ : ClassId) (c0_ : Int32) (c1_ : Int32) (c2_ : Int32) (h0 : Heap) (n0 : Nat) (v : Option Value) (h : Heap) (L : List Loc) : Prop := ∃ (b_ : Addr), ∃ (kb_ : ClassId), v = some (rr b_) ∧ Fr n0 L ∧ Keep h0 h [] ∧ Arv Z h b_ kb_ .byte (3 : Int32) [(.int (nar .byte (c0_.toInt8.toInt32))), (.int (nar .byte (c1_.toInt8.toInt32))), (.int (nar .byte (c2_.toInt8.toInt32)))] (ii 0) ∧ n0 ≤ b_ ∧ h0.size ≤ b_
set_option maxRecDepth 65536 in
set_option maxHeartbeats 40000000 in
theorem rm_cmp3_3 (l : Launch) (Z : State) (a0 : Array Value) (hw : HW Z a0) (ws : List Jvm.Cond) (s_ : Addr) (ks_ : ClassId) (c0_ : Int32) (c1_ : Int32) (c2_ : Int32) (h0 : Heap) (n0 : Nat) (O0 : Old Z n0 h0) (A0_ : Arv Z h0 s_ ks_ .char (3 : Int32) [(.int c0_), (.int c1_), (.int c2_)] (ii 0)) (hs0_ : ¬ ((255 : Int32) < c0_)) (hs1_ : ¬ ((255 : Int32) < c1_)) (hs2_ : ¬ ((255 : Int32) < c2_)) :
  MFP l Z (⟨nm5, "compress", "([CII)[B"⟩ : MethodName) jdk_52_method_16_code 6 (some (.array .byte)) ({ frames := 1, cells := 1, slots := 3, locals := 18 } : Room) ws #[(rr s_), (ii 0), (ii 3)] h0 (Q_cmp3_3 Z s_ ks_ c0_ c1_ c2_ h0 n0) := by
 refine MetFree.of_bodySF (plainFor_of_name pn_java_lang_StringUTF16) hisR ?_
 intro p e s m args below meth c s₁ Bd hml0 hP hK
 obtain ⟨rfl, hZ, hh⟩ := hP
 have hx := Bd.exec
 have hby := Bd.bytes
 have hml : c.maxLocals = 6 := hml0
 have hown : s.vm.findClass nm5 = some m.cls := findClass_of_methodNamed Bd.named
 have hnm := (name_of_methodNamed Bd.named Bd.method).1
 have X0 : Stand p l e ({ frames := 1, cells := 1, slots := 3, locals := 18 } : Room) s m #[(rr s_), (ii 0), (ii 3)] below meth c s₁ [] 0 0 := Stand.of_body Bd
 have e0 : s₁.heap = h0 := by rw [← hh, Bd.state]; rfl
 have N0 := Fr.nil n0
 have kp0 : Keep h0 h0 [] := Keep.refl _ _
 have c0 : ∀ t, S_ p e below s₁ m 0 #[vr s_, vi 0, vi 3, u_, u_, u_] [] t → Steps p.tables e below (s₁.setTop (entryFrame m #[(rr s_), (ii 0), (ii 3)] 6)) t := fun t k => castTop (ef_cmp3_3 m s_) k
 generalize s₁.setTop (entryFrame m #[(rr s_), (ii 0), (ii 3)] 6) = st0 at c0 ⊢
 replace c0 : Kt p e below s₁ st0 (mkF m 0 #[vr s_, vi 0, vi 3, u_, u_, u_] []) := c0
 have c1 : Kt p e below s₁ st0 (mkF m 1 #[vr s_, vi 0, vi 3, u_, u_, u_] [(ii 3)]) := fun t k => by
  refine c0 t ?_
  show S_ p e below s₁ m 0 #[vr s_, vi 0, vi 3, u_, u_, u_] [] t
  refine XS.iloadN X0.here hx rfl (hb hby d1_0) rfl ?_
  exact k
 obtain ⟨b2, T2, h2, k2, z2, g2, X2, e2, E2, o3, A2, c2⟩ := knewP (aty := .byte) X0 hx hZ (w19 hw) e0 c1 rfl (hb hby d1_1) rfl (by decide) 3 (by decide) (by decide) (by decide) (by decide) O0
 have kp5 := kp0.ext E2
 have z6 := Nat.le_trans kp0.1 z2
 have f4 : Arv Z h2 b2 k2 .byte (3 : Int32) [(ii 0), (ii 0), (ii 0)] (ii 0) := A2.pad (pad_rep [] (ii 0) 3)
 have q7 := Nat.ne_of_lt (Nat.lt_of_lt_of_le A0_.lt z2)
 have c8 : Kt p e below T2 st0 (mkF m 9 #[vr s_, vi 0, vi 3, vr b2, u_, u_] [(ii 3), (ii 0), (rr b2), (ii 0), (rr s_)]) := fun t k => by
  refine c2 t ?_
  show S_ p e below T2 m 3 #[vr s_, vi 0, vi 3, u_, u_, u_] [(rr b2)] t
  refine XS.astoreN X2.here hx rfl (hb hby d1_3) rfl rfl (l' := #[vr s_, vi 0, vi 3, vr b2, u_, u_]) rfl ?_
  show S_ p e below T2 m 4 #[vr s_, vi 0, vi 3, vr b2, u_, u_] [] t
  refine XS.aloadN X2.here hx rfl (hb hby d1_4) rfl rfl ?_
  show S_ p e below T2 m 5 #[vr s_, vi 0, vi 3, vr b2, u_, u_] [(rr s_)] t
  refine XS.iloadN X2.here hx rfl (hb hby d1_5) rfl ?_
  show S_ p e below T2 m 6 #[vr s_, vi 0, vi 3, vr b2, u_, u_] [(ii 0), (rr s_)] t
  refine XS.aloadN X2.here hx rfl (hb hby d1_6) rfl rfl ?_
  show S_ p e below T2 m 7 #[vr s_, vi 0, vi 3, vr b2, u_, u_] [(rr b2), (ii 0), (rr s_)] t
  refine XS.iconst X2.here hx rfl (hb hby d1_7) ?_
  show S_ p e below T2 m 8 #[vr s_, vi 0, vi 3, vr b2, u_, u_] [(ii 0), (rr b2), (ii 0), (rr s_)] t
  refine XS.iloadN X2.here hx rfl (hb hby d1_8) rfl ?_
  exact k
 obtain ⟨_, T9, L9, X9, hQ9, c9⟩ := kstat X2 hx hZ hown (w129 hw) (w130 hw) (w127 hw) (w131 hw) (rm_cmp5_3 l Z a0 hw [] s_ ks_ b2 k2 c0_ c1_ c2_ h2 n0 o3 (A0_.ext E2) f4 g2 q7 hs0_ hs1_ hs2_) e2 c8 hml pd_pACIABIIrI [(rr s_), (ii 0), (rr b2), (ii 0), (ii 3)] [] 0 (hb hby d1_9) rfl rfl rfl rfl rfl rfl
 obtain ⟨rfl, N10q, K11, p12⟩ := hQ9
 have N10 := Fr.app N0 N10q
 have o13 := o3.keep K11 (allS g2 all0)
 have kp14 := kp5.trans K11 (allS (Or.inr z6) all0)
 obtain ⟨fs, hr, hrun, hended, hW, hsame⟩ := X9.leave (v := some (rr b2)) (fun h => by rw [Bd.returns] at h; cases h)
 refine ⟨_, _, c9 _ ?_, hrun, hended, _, _, rfl, ?_, ⟨_, rfl⟩, hW, hsame.mono (by decide) (by decide)⟩
 ·show S_ p e below T9 m 12 #[vr s_, vi 0, vi 3, vr b2, u_, u_] [(ii 3)] _
  refine XS.istore X9.here hx rfl (hb hby d1_12) rfl (l' := #[vr s_, vi 0, vi 3, vr b2, vi 3, u_]) rfl ?_
  show S_ p e below T9 m 14 #[vr s_, vi 0, vi 3, vr b2, vi 3, u_] [] _
  refine XS.iload X9.here hx rfl (hb hby d1_14) rfl ?_
  show S_ p e below T9 m 16 #[vr s_, vi 0, vi 3, vr b2, vi 3, u_] [(ii 3)] _
  refine XS.iloadN X9.here hx rfl (hb hby d1_16) rfl ?_
  show S_ p e below T9 m 17 #[vr s_, vi 0, vi 3, vr b2, vi 3, u_] [(ii 3), (ii 3)] _
  refine yC X9.here hx rfl 17 57 rfl (hb hby d1_17) rfl rfl ?_
  show S_ p e below T9 m 57 #[vr s_, vi 0, vi 3, vr b2, vi 3, u_] [] _
  refine XS.aloadN X9.here hx rfl (hb hby d1_57) rfl rfl ?_
  show S_ p e below T9 m 58 #[vr s_, vi 0, vi 3, vr b2, vi 3, u_] [(rr b2)] _
  exact retOut X9 hx Bd.returns rfl (Or.inr (Or.inr (Or.inr (Or.inr ⟨rfl, rfl, rfl⟩)))) (hb hby d1_58) hr
 ·show Q_cmp3_3 Z s_ ks_ c0_ c1_ c2_ h0 n0 _ T9.heap _
  exact ⟨b2, k2, rfl, N10, kp14, p12, g2, z6⟩
theorem ef_codl_3 (m : MethodId) (s_ : Addr) : entryFrame m #[(rr s_), (ii 3)] 2 = mkF m 0 #[vr s_, vi 3] [] := by first | (simp [entryFrame, mkF, argsToLocals, Value.category]; done) | rfl
def Q_codl_3 (Z : State) (s_ : Addr) (ks_ : ClassId) (vs_ : List Value) (h0 : Heap) (n0 : Nat) (v : Option Value) (h : Heap) (L : List Loc) : Prop := v = some (ii 0) ∧ Fr n0 L ∧ h = h0
set_option maxRecDepth 65536 in
set_option maxHeartbeats 40000000 in
theorem rm_codl_3 (l : Launch) (Z : State) (a0 : Array Value) (hw : HW Z a0) (ws : List Jvm.Cond) (s_ : Addr) (ks_ : ClassId) (vs_ : List Value) (h0 : Heap) (n0 : Nat) (O0 : Old Z n0 h0) (A0_ : Arv Z h0 s_ ks_ .byte (3 : Int32) vs_ (ii 0)) :
  MFP l Z (⟨nm5, "coderFromArrayLen", "([BI)B"⟩ : MethodName) jdk_52_method_15_code 2 (some .byte) ({ frames := 0, cells := 0, slots := 0, locals := 0 } : Room) ws #[(rr s_), (ii 3)] h0 (Q_codl_3 Z s_ ks_ vs_ h0 n0) := by
 refine MetFree.of_bodySF (plainFor_of_name pn_java_lang_StringUTF16) hisR ?_
 intro p e s m args below meth c s₁ Bd hml0 hP hK
 obtain ⟨rfl, hZ, hh⟩ := hP
 have hx := Bd.exec
 have hby := Bd.bytes
 have hml : c.maxLocals = 2 := hml0
 have hown : s.vm.findClass nm5 = some m.cls := findClass_of_methodNamed Bd.named
 have hnm := (name_of_methodNamed Bd.named Bd.method).1
 have X0 : Stand p l e ({ frames := 0, cells := 0, slots := 0, locals := 0 } : Room) s m #[(rr s_), (ii 3)] below meth c s₁ [] 0 0 := Stand.of_body Bd
 have e0 : s₁.heap = h0 := by rw [← hh, Bd.state]; rfl
 have N0 := Fr.nil n0
 have kp0 : Keep h0 h0 [] := Keep.refl _ _
 have c0 : ∀ t, S_ p e below s₁ m 0 #[vr s_, vi 3] [] t → Steps p.tables e below (s₁.setTop (entryFrame m #[(rr s_), (ii 3)] 2)) t := fun t k => castTop (ef_codl_3 m s_) k
 generalize s₁.setTop (entryFrame m #[(rr s_), (ii 3)] 2) = st0 at c0 ⊢
 replace c0 : Kt p e below s₁ st0 (mkF m 0 #[vr s_, vi 3] []) := c0
 obtain ⟨fs, hr, hrun, hended, hW, hsame⟩ := X0.leave (v := some (ii 0)) (fun h => by rw [Bd.returns] at h; cases h)
 refine ⟨_, _, c0 _ ?_, hrun, hended, _, _, rfl, ?_, ⟨_, rfl⟩, hW, hsame.mono (by decide) (by decide)⟩
 ·show S_ p e below s₁ m 0 #[vr s_, vi 3] [] _
  refine XS.iloadN X0.here hx rfl (hb hby d2_0) rfl ?_
  show S_ p e below s₁ m 1 #[vr s_, vi 3] [(ii 3)] _
  refine XS.aloadN X0.here hx rfl (hb hby d2_1) rfl rfl ?_
  show S_ p e below s₁ m 2 #[vr s_, vi 3] [(rr s_), (ii 3)] _
  refine ldLen X0 hx hZ e0 A0_ rfl rfl (hb hby d2_2) ?_
  show S_ p e below s₁ m 3 #[vr s_, vi 3] [(ii 3), (ii 3)] _
  refine XS.isub X0.here hx rfl (hb hby d2_3) rfl ?_
  show S_ p e below s₁ m 4 #[vr s_, vi 3] [(ii 0)] _
  refine XS.bipush X0.here hx rfl (hb hby d2_4) ?_
  show S_ p e below s₁ m 6 #[vr s_, vi 3] [(ii 31), (ii 0)] _
  refine XS.iushr X0.here hx rfl (hb hby d2_6) rfl ?_
  show S_ p e below s₁ m 7 #[vr s_, vi 3] [(ii 0)] _
  refine XS.i2b X0.here hx rfl (hb hby d2_7) rfl ?_
  show S_ p e below s₁ m 8 #[vr s_, vi 3] [(ii 0)] _
  exact retN X0 hx (t := .byte) Bd.returns (by simp) (hb hby d2_8) hr
 ·show Q_codl_3 Z s_ ks_ vs_ h0 n0 _ s₁.heap _
  rw [e0]
  exact ⟨rfl, N0, rfl⟩
theorem ef_str4_3 (m : MethodId) (x_ : Addr) (s_ : Addr) : entryFrame m #[(rr x_), (rr s_), (ii 0), (ii 3), .null] 6 = mkF m 0 #[vr x_, vr s_, vi 0, vi 3, .val .null, u_] [] := by first | (simp [entryFrame, mkF, argsToLocals, Value.category]; done) | rfl
def Q_str4_3 (Z : State) (x_ : Addr) (s_ : Addr) (ks_ : ClassId) (z_ : Int32) (c0_ : Int32) (c1_ : Int32) (c2_ : Int32) (h0 : Heap) (n0 : Nat) (v : Option Value) (h : Heap) (L : List Loc) : Prop := v = none ∧ Fr n0 L ∧ Keep h0 h [x_] ∧ Exa Z h x_ nm1 ∧ Fld Z h x_ nm1 "coder" "B" (ii 0) ∧ ∃ (b_ : Addr), ∃ (kb_ : ClassId), Fld Z h x_ nm1 "value" "[B" (rr b_) ∧ Arv Z h b_ kb_ .byte (3 : Int32) [(.int (nar .byte (c0_.toInt8.toInt32))), (.int (nar .byte (c1_.toInt8.toInt32))), (.int (nar .byte (c2_.toInt8.toInt32)))] (ii 0) ∧ n0 ≤ b_ ∧ h0.size ≤ b_
set_option maxRecDepth 65536 in
set_option maxHeartbeats 40000000 in
theorem rm_str4_3 (l : Launch) (Z : State) (a0 : Array Value) (hw : HW Z a0) (ws : List Jvm.Cond) (x_ : Addr) (s_ : Addr) (ks_ : ClassId) (z_ : Int32) (c0_ : Int32) (c1_ : Int32) (c2_ : Int32) (h0 : Heap) (n0 : Nat) (O0 : Old Z n0 h0) (E0_ : Exa Z h0 x_ nm1) (F1_ : Fld Z h0 x_ nm1 "value" "[B" .null) (F2_ : Fld Z h0 x_ nm1 "coder" "B" (ii 0)) (G3_ : n0 ≤ x_) (A4_ : Arv Z h0 s_ ks_ .char (3 : Int32) [(.int c0_), (.int c1_), (.int c2_)] (ii 0)) (ZS5_ : Sta Z Z.heap nm1 "COMPACT_STRINGS" "Z" (.int z_)) (hz_ : ¬ (z_ = (0 : Int32))) (hs0_ : ¬ ((255 : Int32) < c0_)) (hs1_ : ¬ ((255 : Int32) < c1_)) (hs2_ : ¬ ((255 : Int32) < c2_)) :
  MFP l Z (⟨nm1, "<init>", "([CIILjava/lang/Void;)V"⟩ : MethodName) jdk_42_method_149_code 6 none ({ frames := 2, cells := 1, slots := 3, locals := 35 } : Room) ws #[(rr x_), (rr s_), (ii 0), (ii 3), .null] h0 (Q_str4_3 Z x_ s_ ks_ z_ c0_ c1_ c2_ h0 n0) := by
 refine MetFree.of_bodySF (plainFor_of_name pn_java_lang_String) hisR ?_
 intro p e s m args below meth c s₁ Bd hml0 hP hK
 obtain ⟨rfl, hZ, hh⟩ := hP
 have hx := Bd.exec
 have hby := Bd.bytes
 have hml : c.maxLocals = 6 := hml0
 have hown : s.vm.findClass nm1 = some m.cls := findClass_of_methodNamed Bd.named
 have hnm := (name_of_methodNamed Bd.named Bd.method).1
 have X0 : Stand p l e ({ frames := 2, cells := 1, slots := 3, locals := 35 } : Room) s m #[(rr x_), (rr s_), (ii 0), (ii 3), .null] below meth c s₁ [] 0 0 := Stand.of_body Bd
 have e0 : s₁.heap = h0 := by rw [← hh, Bd.state]; rfl
 have N0 := Fr.nil n0
 have kp0 : Keep h0 h0 [x_] := Keep.refl _ _
 have c0 : ∀ t, S_ p e below s₁ m 0 #[vr x_, vr s_, vi 0, vi 3, .val .null, u_] [] t → Steps p.tables e below (s₁.setTop (entryFrame m #[(rr x_), (rr s_), (ii 0), (ii 3), .null] 6)) t := fun t k => castTop (ef_str4_3 m x_ s_) k
 generalize s₁.setTop (entryFrame m #[(rr x_), (rr s_), (ii 0), (ii 3), .null] 6) = st0 at c0 ⊢
 replace c0 : Kt p e below s₁ st0 (mkF m 0 #[vr x_, vr s_, vi 0, vi 3, .val .null, u_] []) := c0
 have c1 : Kt p e below s₁ st0 (mkF m 1 #[vr x_, vr s_, vi 0, vi 3, .val .null, u_] [(rr x_)]) := fun t k => by
  refine c0 t ?_
  show S_ p e below s₁ m 0 #[vr x_, vr s_, vi 0, vi 3, .val .null, u_] [] t
  refine XS.aloadN X0.here hx rfl (hb hby d3_0) rfl rfl ?_
  exact k
 obtain ⟨T2, X2, e2, c2⟩ := kinit X0 hx hZ hown (w15 hw) (w16 hw) (w17 hw) e0 c1 rfl hml rfl rfl (hb hby d3_1) 0 (own_w rfl) (by decide) (by decide)
 have c3 : Kt p e below T2 st0 (mkF m 27 #[vr x_, vr s_, vi 0, vi 3, .val .null, u_] []) := fun t k => by
  refine c2 t ?_
  show S_ p e below T2 m 4 #[vr x_, vr s_, vi 0, vi 3, .val .null, u_] [] t
  refine XS.iloadN X2.here hx rfl (hb hby d3_4) rfl ?_
  show S_ p e below T2 m 5 #[vr x_, vr s_, vi 0, vi 3, .val .null, u_] [(ii 3)] t
  refine yI X2.here hx rfl 5 27 rfl (hb hby d3_5) rfl rfl ?_
  exact k
 obtain ⟨T4, X4, e4, c4⟩ := kgetS X2 hx hZ hown (host := "") (Or.inl (w124 hw)) Via.refl e2 (ZS5_.ext O0.2) c3 rfl (hb hby d3_27)
 have c5 : Kt p e below T4 st0 (mkF m 36 #[vr x_, vr s_, vi 0, vi 3, .val .null, u_] [(ii 3), (ii 0), (rr s_)]) := fun t k => by
  refine c4 t ?_
  show S_ p e below T4 m 30 #[vr x_, vr s_, vi 0, vi 3, .val .null, u_] [(.int z_)] t
  refine XS.ifNo X4.here hx rfl (hb hby d3_30) rfl ((if0 _ _).trans (feq hz_).1) ?_
  show S_ p e below T4 m 33 #[vr x_, vr s_, vi 0, vi 3, .val .null, u_] [] t
  refine XS.aloadN X4.here hx rfl (hb hby d3_33) rfl rfl ?_
  show S_ p e below T4 m 34 #[vr x_, vr s_, vi 0, vi 3, .val .null, u_] [(rr s_)] t
  refine XS.iloadN X4.here hx rfl (hb hby d3_34) rfl ?_
  show S_ p e below T4 m 35 #[vr x_, vr s_, vi 0, vi 3, .val .null, u_] [(ii 0), (rr s_)] t
  refine XS.iloadN X4.here hx rfl (hb hby d3_35) rfl ?_
  exact k
 obtain ⟨_, T6, L6, X6, hQ6, c6⟩ := kstat X4 hx hZ hown (w125 hw) (w126 hw) (w127 hw) (w128 hw) (rm_cmp3_3 l Z a0 hw [] s_ ks_ c0_ c1_ c2_ h0 n0 O0 A4_ hs0_ hs1_ hs2_) e4 c5 hml pd_pACIIrAB [(rr s_), (ii 0), (ii 3)] [] 0 (hb hby d3_36) rfl rfl rfl rfl rfl rfl
 obtain ⟨b7, k8, rfl, N9q, K10, p11, p12, p13⟩ := hQ6
 have N9 := Fr.app N0 N9q
 have o14 := O0.keep K10 all0
 have kp15 := kp0.trans K10 all0
 have z16 := Nat.le_trans kp0.1 p13
 have g17 := Nat.le_trans (Nat.le_trans (Nat.le_of_eq O0.1.symm) O0.2.1) p13
 have c18 : Kt p e below T6 st0 (mkF m 45 #[vr x_, vr s_, vi 0, vi 3, .val .null, vr b7] [(ii 3), (rr b7), (rr x_)]) := fun t k => by
  refine c6 t ?_
  show S_ p e below T6 m 39 #[vr x_, vr s_, vi 0, vi 3, .val .null, u_] [(rr b7)] t
  refine XS.astore X6.here hx rfl (hb hby d3_39) rfl rfl (l' := #[vr x_, vr s_, vi 0, vi 3, .val .null, vr b7]) rfl ?_
  show S_ p e below T6 m 41 #[vr x_, vr s_, vi 0, vi 3, .val .null, vr b7] [] t
  refine XS.aloadN X6.here hx rfl (hb hby d3_41) rfl rfl ?_
  show S_ p e below T6 m 42 #[vr x_, vr s_, vi 0, vi 3, .val .null, vr b7] [(rr x_)] t
  refine XS.aload X6.here hx rfl (hb hby d3_42) rfl rfl ?_
  show S_ p e below T6 m 44 #[vr x_, vr s_, vi 0, vi 3, .val .null, vr b7] [(rr b7), (rr x_)] t
  refine XS.iloadN X6.here hx rfl (hb hby d3_44) rfl ?_
  exact k
 obtain ⟨_, T19, L19, X19, hQ19, c19⟩ := kstat X6 hx hZ hown (w132 hw) (w133 hw) (w127 hw) (w134 hw) (rm_codl_3 l Z a0 hw [] b7 k8 [(.int (nar .byte (c0_.toInt8.toInt32))), (.int (nar .byte (c1_.toInt8.toInt32))), (.int (nar .byte (c2_.toInt8.toInt32)))] T6.heap n0 o14 p11) rfl c18 hml pd_pABIrB [(rr b7), (ii 3)] [(rr x_)] 1 (hb hby d3_45) rfl rfl rfl rfl rfl rfl
 obtain ⟨rfl, N20q, K21⟩ := hQ19
 have N20 := Fr.app N9 N20q
 obtain ⟨T22, h22, X22, e22, W22, f23, o25, N24, c22⟩ := kput X19 hx hZ .byte hown (host := "") (Or.inl (w25 hw)) Via.refl K21 (F2_.keep K10 nin0) (E0_.keep K10) (Or.inr ⟨(w21 hw), rfl, hnm⟩) (w5 hw) c19 rfl rfl (hb hby d3_48) (by decide) rfl rfl o14 N20 G3_
 have kp26 := kp15.wr W22 (Or.inl (List.mem_of_getElem? (i := 0) rfl))
 have f27 := (F1_.keep K10 nin0).other W22 (Or.inr (slot_ne (Or.inr (w20 hw)) (Or.inr (w21 hw)) (by decide) (t := (.array .byte)) (t' := .byte) (by decide) (by decide)))
 have c28 : Kt p e below T22 st0 (mkF m 54 #[vr x_, vr s_, vi 0, vi 3, .val .null, vr b7] [(rr b7), (rr x_)]) := fun t k => by
  refine c22 t ?_
  show S_ p e below T22 m 51 #[vr x_, vr s_, vi 0, vi 3, .val .null, vr b7] [] t
  refine XS.aloadN X22.here hx rfl (hb hby d3_51) rfl rfl ?_
  show S_ p e below T22 m 52 #[vr x_, vr s_, vi 0, vi 3, .val .null, vr b7] [(rr x_)] t
  refine XS.aload X22.here hx rfl (hb hby d3_52) rfl rfl ?_
  exact k
 obtain ⟨T29, h29, X29, e29, W29, f30, o32, N31, c29⟩ := kput X22 hx hZ (.array .byte) hown (host := "") (Or.inl (w24 hw)) Via.refl e22 f27 ((E0_.keep K10).wr W22) (Or.inr ⟨(w20 hw), rfl, hnm⟩) (w5 hw) c28 rfl rfl (hb hby d3_54) (by decide) rfl rfl o25 N24 G3_
 have kp33 := kp26.wr W29 (Or.inl (List.mem_of_getElem? (i := 0) rfl))
 have f34 := f23.other W29 (Or.inr (slot_ne (Or.inr (w21 hw)) (Or.inr (w20 hw)) (by decide) (t := .byte) (t' := (.array .byte)) (by decide) (by decide)))
 have q35 := Ne.symm (Nat.ne_of_lt (Nat.lt_of_lt_of_le E0_.lt p13))
 obtain ⟨fs, hr, hrun, hended, hW, hsame⟩ := X29.leave (v := none) (fun _ => rfl)
 refine ⟨_, _, c29 _ ?_, hrun, hended, _, _, rfl, ?_, ⟨_, rfl⟩, hW, hsame.mono (by decide) (by decide)⟩
 ·show S_ p e below T29 m 57 #[vr x_, vr s_, vi 0, vi 3, .val .null, vr b7] [] _
  exact X29.returnOut hx Bd.returns (hb hby d3_57) hr
 ·show Q_str4_3 Z x_ s_ ks_ z_ c0_ c1_ c2_ h0 n0 _ T29.heap _
  rw [e29]
  exact ⟨rfl, N31, kp33, (((E0_.keep K10).wr W22).wr W29), f34, b7, k8, f30, ((p11.other W22 q35).other W29 q35), g17, z16⟩
theorem ef_str1_3 (m : MethodId) (x_ : Addr) (s_ : Addr) : entryFrame m #[(rr x_), (rr s_)] 2 = mkF m 0 #[vr x_, vr s_] [] := by first | (simp [entryFrame, mkF, argsToLocals, Value.category]; done) | rfl
def Q_str1_3 (Z : State) (x_ : Addr) (s_ : Addr) (ks_ : ClassId) (z_ : Int32) (c0_ : Int32) (c1_ : Int32) (c2_ : Int32) (h0 : Heap) (n0 : Nat) (v : Option Value) (h : Heap) (L : List Loc) : Prop := v = none ∧ Fr n0 L ∧ Keep h0 h [x_] ∧ Exa Z h x_ nm1 ∧ Fld Z h x_ nm1 "coder" "B" (ii 0) ∧ ∃ (b_ : Addr), ∃ (kb_ : ClassId), Fld Z h x_ nm1 "value" "[B" (rr b_) ∧ Arv Z h b_ kb_ .byte (3 : Int32) [(.int (nar .byte (c0_.toInt8.toInt32))), (.int (nar .byte (c1_.toInt8.toInt32))), (.int (nar .byte (c2_.toInt8.toInt32)))] (ii 0) ∧ n0 ≤ b_ ∧ h0.size ≤ b_
set_option maxRecDepth 65536 in
set_option maxHeartbeats 40000000 in
theorem rm_str1_3 (l : Launch) (Z : State) (a0 : Array Value) (hw : HW Z a0) (ws : List Jvm.Cond) (x_ : Addr) (s_ : Addr) (ks_ : ClassId) (z_ : Int32) (c0_ : Int32) (c1_ : Int32) (c2_ : Int32) (h0 : Heap) (n0 : Nat) (O0 : Old Z n0 h0) (E0_ : Exa Z h0 x_ nm1) (F1_ : Fld Z h0 x_ nm1 "value" "[B" .null) (F2_ : Fld Z h0 x_ nm1 "coder" "B" (ii 0)) (G3_ : n0 ≤ x_) (A4_ : Arv Z h0 s_ ks_ .char (3 : Int32) [(.int c0_), (.int c1_), (.int c2_)] (ii 0)) (ZS5_ : Sta Z Z.heap nm1 "COMPACT_STRINGS" "Z" (.int z_)) (hz_ : ¬ (z_ = (0 : Int32))) (hs0_ : ¬ ((255 : Int32) < c0_)) (hs1_ : ¬ ((255 : Int32) < c1_)) (hs2_ : ¬ ((255 : Int32) < c2_)) :
  MFP l Z (⟨nm1, "<init>", "([C)V"⟩ : MethodName) jdk_42_method_3_code 2 none ({ frames := 3, cells := 1, slots := 3, locals := 52 } : Room) ws #[(rr x_), (rr s_)] h0 (Q_str1_3 Z x_ s_ ks_ z_ c0_ c1_ c2_ h0 n0) := by
 refine MetFree.of_bodySF (plainFor_of_name pn_java_lang_String) hisR ?_
 intro p e s m args below meth c s₁ Bd hml0 hP hK
 obtain ⟨rfl, hZ, hh⟩ := hP
 have hx := Bd.exec
 have hby := Bd.bytes
 have hml : c.maxLocals = 2 := hml0
 have hown : s.vm.findClass nm1 = some m.cls := findClass_of_methodNamed Bd.named
 have hnm := (name_of_methodNamed Bd.named Bd.method).1
 have X0 : Stand p l e ({ frames := 3, cells := 1, slots := 3, locals := 52 } : Room) s m #[(rr x_), (rr s_)] below meth c s₁ [] 0 0 := Stand.of_body Bd
 have e0 : s₁.heap = h0 := by rw [← hh, Bd.state]; rfl
 have N0 := Fr.nil n0
 have kp0 : Keep h0 h0 [x_] := Keep.refl _ _
 have c0 : ∀ t, S_ p e below s₁ m 0 #[vr x_, vr s_] [] t → Steps p.tables e below (s₁.setTop (entryFrame m #[(rr x_), (rr s_)] 2)) t := fun t k => castTop (ef_str1_3 m x_ s_) k
 generalize s₁.setTop (entryFrame m #[(rr x_), (rr s_)] 2) = st0 at c0 ⊢
 replace c0 : Kt p e below s₁ st0 (mkF m 0 #[vr x_, vr s_] []) := c0
 have c1 : Kt p e below s₁ st0 (mkF m 6 #[vr x_, vr s_] [.null, (ii 3), (ii 0), (rr s_), (rr x_)]) := fun t k => by
  refine c0 t ?_
  show S_ p e below s₁ m 0 #[vr x_, vr s_] [] t
  refine XS.aloadN X0.here hx rfl (hb hby d4_0) rfl rfl ?_
  show S_ p e below s₁ m 1 #[vr x_, vr s_] [(rr x_)] t
  refine XS.aloadN X0.here hx rfl (hb hby d4_1) rfl rfl ?_
  show S_ p e below s₁ m 2 #[vr x_, vr s_] [(rr s_), (rr x_)] t
  refine XS.iconst X0.here hx rfl (hb hby d4_2) ?_
  show S_ p e below s₁ m 3 #[vr x_, vr s_] [(ii 0), (rr s_), (rr x_)] t
  refine XS.aloadN X0.here hx rfl (hb hby d4_3) rfl rfl ?_
  show S_ p e below s₁ m 4 #[vr x_, vr s_] [(rr s_), (ii 0), (rr s_), (rr x_)] t
  refine ldLen X0 hx hZ e0 A4_ rfl rfl (hb hby d4_4) ?_
  show S_ p e below s₁ m 5 #[vr x_, vr s_] [(ii 3), (ii 0), (rr s_), (rr x_)] t
  refine XS.aconstNull X0.here hx rfl (hb hby d4_5) ?_
  exact k
 obtain ⟨_, T2, L2, X2, hQ2, c2⟩ := kspec X0 hx hZ hown (w11 hw) (w12 hw) (w6 hw) (w14 hw) (rm_str4_3 l Z a0 hw [] x_ s_ ks_ z_ c0_ c1_ c2_ h0 n0 O0 E0_ F1_ F2_ G3_ A4_ ZS5_ hz_ hs0_ hs1_ hs2_) e0 c1 hml pd_pACIILjava_lang_Void_rV x_ [(rr s_), (ii 0), (ii 3), .null] [] 0 (hb hby d4_6) rfl rfl rfl rfl rfl rfl
 obtain ⟨rfl, N3q, K4, p5, p6, b7, k8, p9, p10, p11, p12⟩ := hQ2
 have N3 := Fr.app N0 N3q
 have o13 := O0.keep K4 (allS G3_ all0)
 have kp14 := kp0.trans K4 (allS (Or.inl (List.mem_of_getElem? (i := 0) rfl)) all0)
 have z15 := Nat.le_trans kp0.1 p12
 have g16 := Nat.le_trans (Nat.le_trans (Nat.le_of_eq O0.1.symm) O0.2.1) p12
 obtain ⟨fs, hr, hrun, hended, hW, hsame⟩ := X2.leave (v := none) (fun _ => rfl)
 refine ⟨_, _, c2 _ ?_, hrun, hended, _, _, rfl, ?_, ⟨_, rfl⟩, hW, hsame.mono (by decide) (by decide)⟩
 ·show S_ p e below T2 m 9 #[vr x_, vr s_] [] _
  exact X2.returnOut hx Bd.returns (hb hby d4_9) hr
 ·show Q_str1_3 Z x_ s_ ks_ z_ c0_ c1_ c2_ h0 n0 _ T2.heap _
  exact ⟨rfl, N3, kp14, p5, p6, b7, k8, p9, p10, g16, z15⟩
theorem d3_8 : decode jdk_42_method_149_code 8 = .ok (.aload_n 0, 1) := by decide +kernel
theorem d3_9 : decode jdk_42_method_149_code 9 = .ok (.ldc 7, 2) := by decide +kernel
theorem d3_11 : decode jdk_42_method_149_code 11 = .ok (.getfield 9, 3) := by decide +kernel
theorem d3_14 : decode jdk_42_method_149_code 14 = .ok (.putfield 9, 3) := by decide +kernel
theorem d3_17 : decode jdk_42_method_149_code 17 = .ok (.aload_n 0, 1) := by decide +kernel
theorem d3_18 : decode jdk_42_method_149_code 18 = .ok (.ldc 7, 2) := by decide +kernel
theorem d3_20 : decode jdk_42_method_149_code 20 = .ok (.getfield 15, 3) := by decide +kernel
theorem d3_23 : decode jdk_42_method_149_code 23 = .ok (.putfield 15, 3) := by decide +kernel
theorem d3_26 : decode jdk_42_method_149_code 26 = .ok (.return_, 1) := by decide +kernel
theorem ef_str4_0 (m : MethodId) (x_ : Addr) (s_ : Addr) : entryFrame m #[(rr x_), (rr s_), (ii 0), (ii 0), .null] 6 = mkF m 0 #[vr x_, vr s_, vi 0, vi 0, .val .null, u_] [] := by first | (simp [entryFrame, mkF, argsToLocals, Value.category]; done) | rfl
def Q_str4_0 (Z : State) (x_ : Addr) (s_ : Addr) (ks_ : ClassId) (h0 : Heap) (n0 : Nat) (v : Option Value) (h : Heap) (L : List Loc) : Prop := v = none ∧ Fr n0 L ∧ Keep h0 h [x_] ∧ Exa Z h x_ nm1 ∧ Fld Z h x_ nm1 "coder" "B" (ii 0) ∧ ∃ (b_ : Addr), ∃ (kb_ : ClassId), Fld Z h x_ nm1 "value" "[B" (rr b_) ∧ Arv Z h b_ kb_ .byte (0 : Int32) [] (ii 0)
set_option maxRecDepth 65536 in
set_option maxHeartbeats 40000000 in
theorem rm_str4_0 (l : Launch) (Z : State) (a0 : Array Value) (hw : HW Z a0) (ws : List Jvm.Cond) (x_ : Addr) (s_ : Addr) (ks_ : ClassId) (h0 : Heap) (n0 : Nat) (O0 : Old Z n0 h0) (E0_ : Exa Z h0 x_ nm1) (F1_ : Fld Z h0 x_ nm1 "value" "[B" .null) (F2_ : Fld Z h0 x_ nm1 "coder" "B" (ii 0)) (G3_ : n0 ≤ x_) (A4_ : Arv Z h0 s_ ks_ .char (0 : Int32) [] (ii 0)) (hlit_ : Jvm.Lit.constHeld Z nm1 7) (hcw : Jvm.Lit.compactW.before a0 Z = true) :
  MFI l Z (⟨nm1, "<init>", "([CIILjava/lang/Void;)V"⟩ : MethodName) jdk_42_method_149_code 6 none ({ frames := 1, cells := 2, slots := 4, locals := 12 } : Room) ws #[(rr x_), (rr s_), (ii 0), (ii 0), .null] h0 (Q_str4_0 Z x_ s_ ks_ h0 n0) := by
 refine MetFree.of_bodySF (plainFor_of_name pn_java_lang_String) hisR ?_
 intro p e s m args below meth c s₁ Bd hml0 hP hK
 obtain ⟨rfl, hZ, hh, hI⟩ := hP
 have hx := Bd.exec
 have hby := Bd.bytes
 have hml : c.maxLocals = 6 := hml0
 have hown : s.vm.findClass nm1 = some m.cls := findClass_of_methodNamed Bd.named
 have hnm := (name_of_methodNamed Bd.named Bd.method).1
 have X0 : Stand p l e ({ frames := 1, cells := 2, slots := 4, locals := 12 } : Room) (s.setVm s.vm) m #[(rr x_), (rr s_), (ii 0), (ii 0), .null] below meth c s₁ [] 0 0 := Stand.of_body Bd
 have e0 : s₁.heap = h0 := by rw [← hh, Bd.state]; rfl
 have N0 := Fr.nil n0
 have kp0 : Keep h0 h0 [x_] := Keep.refl _ _
 have hS0 : s.Since s.vm 0 := (State.WarmedH.refl s).since 0
 have c0 : ∀ t, S_ p e below s₁ m 0 #[vr x_, vr s_, vi 0, vi 0, .val .null, u_] [] t → Steps p.tables e below (s₁.setTop (entryFrame m #[(rr x_), (rr s_), (ii 0), (ii 0), .null] 6)) t := fun t k => castTop (ef_str4_0 m x_ s_) k
 generalize s₁.setTop (entryFrame m #[(rr x_), (rr s_), (ii 0), (ii 0), .null] 6) = st0 at c0 ⊢
 replace c0 : Kt p e below s₁ st0 (mkF m 0 #[vr x_, vr s_, vi 0, vi 0, .val .null, u_] []) := c0
 have c1 : Kt p e below s₁ st0 (mkF m 1 #[vr x_, vr s_, vi 0, vi 0, .val .null, u_] [(rr x_)]) := fun t k => by
  refine c0 t ?_
  show S_ p e below s₁ m 0 #[vr x_, vr s_, vi 0, vi 0, .val .null, u_] [] t
  refine XS.aloadN X0.here hx rfl (hb hby d3_0) rfl rfl ?_
  exact k
 obtain ⟨T2, X2, e2, c2⟩ := kinit X0 hx hZ hown (w15 hw) (w16 hw) (w17 hw) e0 c1 rfl hml rfl rfl (hb hby d3_1) 0 (own_w rfl) (by decide) (by decide)
 have c3 : Kt p e below T2 st0 (mkF m 9 #[vr x_, vr s_, vi 0, vi 0, .val .null, u_] [(rr x_)]) := fun t k => by
  refine c2 t ?_
  show S_ p e below T2 m 4 #[vr x_, vr s_, vi 0, vi 0, .val .null, u_] [] t
  refine XS.iloadN X2.here hx rfl (hb hby d3_4) rfl ?_
  show S_ p e below T2 m 5 #[vr x_, vr s_, vi 0, vi 0, .val .null, u_] [(ii 0)] t
  refine XS.ifNo X2.here hx rfl (hb hby d3_5) rfl rfl ?_
  show S_ p e below T2 m 8 #[vr x_, vr s_, vi 0, vi 0, .val .null, u_] [] t
  refine XS.aloadN X2.here hx rfl (hb hby d3_8) rfl rfl ?_
  exact k
 obtain ⟨a4, T4, h4, k4, b4, kb4, X4, e4, E4, o5, hS4, hk4, hZ4, hown4, fE4, fC4, fV4, fA4, Lt4, c4⟩ := kldcV X2 hx hZ hown (w18 hw) (own_atoms hw) e2 c3 0 (hb hby d3_9) rfl hh O0 hI hlit_ hcw (vs := []) (z := (0 : Int32)) ⟨by decide, rfl⟩ (by decide) rfl (by decide) (by decide) (by decide) (by decide) O0
 have kp6 := kp0.ext E4
 obtain ⟨T7, X7, e7, c7⟩ := kget X4 hx hZ4 hown4 (host := "") (Or.inl (w24 hw)) Via.refl e4 fV4 c4 rfl rfl (hb hby d3_11)
 obtain ⟨T8, h8, X8, e8, W8, f9, o11, N10, c8⟩ := kput X7 hx hZ4 (.array .byte) hown4 (host := "") (Or.inl (w24 hw)) Via.refl e7 (F1_.ext E4) (E0_.ext E4) (Or.inr ⟨(w20 hw), rfl, hnm⟩) (w5 hw) c7 rfl rfl (hb hby d3_14) (by decide) rfl rfl o5 N0 G3_
 have kp12 := kp6.wr W8 (Or.inl (List.mem_of_getElem? (i := 0) rfl))
 have f13 := fC4.other W8 (Or.inr (slot_ne (Or.inr (w21 hw)) (Or.inr (w20 hw)) (by decide) (t := .byte) (t' := (.array .byte)) (by decide) (by decide)))
 have c14 : Kt p e below T8 st0 (mkF m 20 #[vr x_, vr s_, vi 0, vi 0, .val .null, u_] [(rr a4), (rr x_)]) := fun t k => by
  refine c8 t ?_
  show S_ p e below T8 m 17 #[vr x_, vr s_, vi 0, vi 0, .val .null, u_] [] t
  refine XS.aloadN X8.here hx rfl (hb hby d3_17) rfl rfl ?_
  show S_ p e below T8 m 18 #[vr x_, vr s_, vi 0, vi 0, .val .null, u_] [(rr x_)] t
  refine ldcAgain X8 hx hZ4 hown4 (w18 hw) Lt4 (g := (mkF m 18 #[vr x_, vr s_, vi 0, vi 0, .val .null, u_] [(rr x_)])) rfl (hb hby d3_18) _ ?_
  exact k
 obtain ⟨T15, X15, e15, c15⟩ := kget X8 hx hZ4 hown4 (host := "") (Or.inl (w25 hw)) Via.refl e8 f13 c14 rfl rfl (hb hby d3_20)
 have f16 := (F2_.ext E4).other W8 (Or.inr (slot_ne (Or.inr (w21 hw)) (Or.inr (w20 hw)) (by decide) (t := .byte) (t' := (.array .byte)) (by decide) (by decide)))
 obtain ⟨T17, h17, X17, e17, W17, f18, o20, N19, c17⟩ := kput X15 hx hZ4 .byte hown4 (host := "") (Or.inl (w25 hw)) Via.refl e15 f16 ((E0_.ext E4).wr W8) (Or.inr ⟨(w21 hw), rfl, hnm⟩) (w5 hw) c15 rfl rfl (hb hby d3_23) (by decide) rfl rfl o11 N10 G3_
 have kp21 := kp12.wr W17 (Or.inl (List.mem_of_getElem? (i := 0) rfl))
 have f22 := f9.other W17 (Or.inr (slot_ne (Or.inr (w20 hw)) (Or.inr (w21 hw)) (by decide) (t := (.array .byte)) (t' := .byte) (by decide) (by decide)))
 have q23 := Ne.symm (Exa.neArv (E0_.ext E4) fA4 (w5 hw))
 obtain ⟨fs, hr, hrun, hended, hRW⟩ := X17.leaveW hS4 (by first | exact (Nat.le_trans hk4 (Nat.le_trans (Keep.of_wr W8).1 (Keep.of_wr W17).1)) | (rw [e17]; exact (Nat.le_trans hk4 (Nat.le_trans (Keep.of_wr W8).1 (Keep.of_wr W17).1)))) (v := none) (fun _ => rfl)
 refine ⟨_, _, c17 _ ?_, hrun, hended, _, _, rfl, ?_, hRW.1, hRW.2.1, hRW.2.2.1, hRW.2.2.2.mono (by decide) (by decide)⟩
 ·show S_ p e below T17 m 26 #[vr x_, vr s_, vi 0, vi 0, .val .null, u_] [] _
  exact X17.returnOut hx Bd.returns (hb hby d3_26) hr
 ·show Q_str4_0 Z x_ s_ ks_ h0 n0 _ T17.heap _
  rw [e17]
  exact ⟨rfl, N19, kp21, (((E0_.ext E4).wr W8).wr W17), f18, b4, kb4, f22, ((fA4.other W8 q23).other W17 q23)⟩
theorem ef_str1_0 (m : MethodId) (x_ : Addr) (s_ : Addr) : entryFrame m #[(rr x_), (rr s_)] 2 = mkF m 0 #[vr x_, vr s_] [] := by first | (simp [entryFrame, mkF, argsToLocals, Value.category]; done) | rfl
def Q_str1_0 (Z : State) (x_ : Addr) (s_ : Addr) (ks_ : ClassId) (h0 : Heap) (n0 : Nat) (v : Option Value) (h : Heap) (L : List Loc) : Prop := v = none ∧ Fr n0 L ∧ Keep h0 h [x_] ∧ Exa Z h x_ nm1 ∧ Fld Z h x_ nm1 "coder" "B" (ii 0) ∧ ∃ (b_ : Addr), ∃ (kb_ : ClassId), Fld Z h x_ nm1 "value" "[B" (rr b_) ∧ Arv Z h b_ kb_ .byte (0 : Int32) [] (ii 0)
set_option maxRecDepth 65536 in
set_option maxHeartbeats 40000000 in
theorem rm_str1_0 (l : Launch) (Z : State) (a0 : Array Value) (hw : HW Z a0) (ws : List Jvm.Cond) (x_ : Addr) (s_ : Addr) (ks_ : ClassId) (h0 : Heap) (n0 : Nat) (O0 : Old Z n0 h0) (E0_ : Exa Z h0 x_ nm1) (F1_ : Fld Z h0 x_ nm1 "value" "[B" .null) (F2_ : Fld Z h0 x_ nm1 "coder" "B" (ii 0)) (G3_ : n0 ≤ x_) (A4_ : Arv Z h0 s_ ks_ .char (0 : Int32) [] (ii 0)) (hlit_ : Jvm.Lit.constHeld Z nm1 7) (hcw : Jvm.Lit.compactW.before a0 Z = true) :
  MFI l Z (⟨nm1, "<init>", "([C)V"⟩ : MethodName) jdk_42_method_3_code 2 none ({ frames := 2, cells := 2, slots := 4, locals := 29 } : Room) ws #[(rr x_), (rr s_)] h0 (Q_str1_0 Z x_ s_ ks_ h0 n0) := by
 refine MetFree.of_bodySF (plainFor_of_name pn_java_lang_String) hisR ?_
 intro p e s m args below meth c s₁ Bd hml0 hP hK
 obtain ⟨rfl, hZ, hh, hI⟩ := hP
 have hx := Bd.exec
 have hby := Bd.bytes
 have hml : c.maxLocals = 2 := hml0
 have hown : s.vm.findClass nm1 = some m.cls := findClass_of_methodNamed Bd.named
 have hnm := (name_of_methodNamed Bd.named Bd.method).1
 have X0 : Stand p l e ({ frames := 2, cells := 2, slots := 4, locals := 29 } : Room) (s.setVm s.vm) m #[(rr x_), (rr s_)] below meth c s₁ [] 0 0 := Stand.of_body Bd
 have e0 : s₁.heap = h0 := by rw [← hh, Bd.state]; rfl
 have N0 := Fr.nil n0
 have kp0 : Keep h0 h0 [x_] := Keep.refl _ _
 have hS0 : s.Since s.vm 0 := (State.WarmedH.refl s).since 0
 have c0 : ∀ t, S_ p e below s₁ m 0 #[vr x_, vr s_] [] t → Steps p.tables e below (s₁.setTop (entryFrame m #[(rr x_), (rr s_)] 2)) t := fun t k => castTop (ef_str1_0 m x_ s_) k
 generalize s₁.setTop (entryFrame m #[(rr x_), (rr s_)] 2) = st0 at c0 ⊢
 replace c0 : Kt p e below s₁ st0 (mkF m 0 #[vr x_, vr s_] []) := c0
 have c1 : Kt p e below s₁ st0 (mkF m 6 #[vr x_, vr s_] [.null, (ii 0), (ii 0), (rr s_), (rr x_)]) := fun t k => by
  refine c0 t ?_
  show S_ p e below s₁ m 0 #[vr x_, vr s_] [] t
  refine XS.aloadN X0.here hx rfl (hb hby d4_0) rfl rfl ?_
  show S_ p e below s₁ m 1 #[vr x_, vr s_] [(rr x_)] t
  refine XS.aloadN X0.here hx rfl (hb hby d4_1) rfl rfl ?_
  show S_ p e below s₁ m 2 #[vr x_, vr s_] [(rr s_), (rr x_)] t
  refine XS.iconst X0.here hx rfl (hb hby d4_2) ?_
  show S_ p e below s₁ m 3 #[vr x_, vr s_] [(ii 0), (rr s_), (rr x_)] t
  refine XS.aloadN X0.here hx rfl (hb hby d4_3) rfl rfl ?_
  show S_ p e below s₁ m 4 #[vr x_, vr s_] [(rr s_), (ii 0), (rr s_), (rr x_)] t
  refine ldLen X0 hx hZ e0 A4_ rfl rfl (hb hby d4_4) ?_
  show S_ p e below s₁ m 5 #[vr x_, vr s_] [(ii 0), (ii 0), (rr s_), (rr x_)] t
  refine XS.aconstNull X0.here hx rfl (hb hby d4_5) ?_
  exact k
 obtain ⟨_, T2, L2, X2, hQ2, hS2, hZ2, hown2, c2⟩ := kspecB X0 hx hZ hown hS0 (Nat.zero_le _) (w11 hw) (w12 hw) (w14 hw) (rm := ({ frames := 1, cells := 2, slots := 4, locals := 12 } : Room)) (backOfSI (W := 0) (rm_str4_0 l Z a0 hw [] x_ s_ ks_ h0 n0 O0 E0_ F1_ F2_ G3_ A4_ hlit_ hcw) hZ hI (w14 hw) (w6 hw) (by decide) (by decide)) e0 c1 hml pd_pACIILjava_lang_Void_rV x_ [(rr s_), (ii 0), (ii 0), .null] [] (hb hby d4_6) rfl rfl rfl rfl rfl rfl
 obtain ⟨rfl, N3q, K4, p5, p6, b7, k8, p9, p10⟩ := hQ2
 have N3 := Fr.app N0 N3q
 have o11 := O0.keep K4 (allS G3_ all0)
 have kp12 := kp0.trans K4 (allS (Or.inl (List.mem_of_getElem? (i := 0) rfl)) all0)
 obtain ⟨fs, hr, hrun, hended, hRW⟩ := X2.leaveW hS2 (by first | exact (Nat.le_refl _) | (rw [rfl]; exact (Nat.le_refl _))) (v := none) (fun _ => rfl)
 refine ⟨_, _, c2 _ ?_, hrun, hended, _, _, rfl, ?_, hRW.1, hRW.2.1, hRW.2.2.1, hRW.2.2.2.mono (by decide) (by decide)⟩
 ·show S_ p e below T2 m 9 #[vr x_, vr s_] [] _
  exact X2.returnOut hx Bd.returns (hb hby d4_9) hr
 ·show Q_str1_0 Z x_ s_ ks_ h0 n0 _ T2.heap _
  exact ⟨rfl, N3, kp12, p5, p6, b7, k8, p9, p10⟩
theorem pn_java_lang_Record : plainName "java/lang/Record" = true := by first | (simp [plainName, overriddenIn]; done) | decide +kernel
theorem d5_0 : decode jdk_30_method_1_code 0 = .ok (.aload_n 0, 1) := by decide +kernel
theorem d5_1 : decode jdk_30_method_1_code 1 = .ok (.invokespecial 1, 3) := by decide +kernel
theorem d5_4 : decode jdk_30_method_1_code 4 = .ok (.return_, 1) := by decide +kernel
theorem ef_record (m : MethodId) (x_ : Addr) : entryFrame m #[(rr x_)] 1 = mkF m 0 #[vr x_] [] := by first | (simp [entryFrame, mkF, argsToLocals, Value.category]; done) | rfl
def Q_record (Z : State) (x_ : Addr) (h0 : Heap) (n0 : Nat) (v : Option Value) (h : Heap) (L : List Loc) : Prop := v = none ∧ Fr n0 L ∧ h = h0
set_option maxRecDepth 65536 in
set_option maxHeartbeats 40000000 in
theorem rm_record (l : Launch) (Z : State) (a0 : Array Value) (hw : HW Z a0) (ws : List Jvm.Cond) (x_ : Addr) (h0 : Heap) (n0 : Nat) (O0 : Old Z n0 h0) :
  MFP l Z (⟨"java/lang/Record", "<init>", "()V"⟩ : MethodName) jdk_30_method_1_code 1 none ({ frames := 1, cells := 0, slots := 0, locals := 12 } : Room) ws #[(rr x_)] h0 (Q_record Z x_ h0 n0) := by
 refine MetFree.of_bodySF (plainFor_of_name pn_java_lang_Record) hisR ?_
 intro p e s m args below meth c s₁ Bd hml0 hP hK
 obtain ⟨rfl, hZ, hh⟩ := hP
 have hx := Bd.exec
 have hby := Bd.bytes
 have hml : c.maxLocals = 1 := hml0
 have hown : s.vm.findClass "java/lang/Record" = some m.cls := findClass_of_methodNamed Bd.named
 have hnm := (name_of_methodNamed Bd.named Bd.method).1
 have X0 : Stand p l e ({ frames := 1, cells := 0, slots := 0, locals := 12 } : Room) s m #[(rr x_)] below meth c s₁ [] 0 0 := Stand.of_body Bd
 have e0 : s₁.heap = h0 := by rw [← hh, Bd.state]; rfl
 have N0 := Fr.nil n0
 have kp0 : Keep h0 h0 [] := Keep.refl _ _
 have c0 : ∀ t, S_ p e below s₁ m 0 #[vr x_] [] t → Steps p.tables e below (s₁.setTop (entryFrame m #[(rr x_)] 1)) t := fun t k => castTop (ef_record m x_) k
 generalize s₁.setTop (entryFrame m #[(rr x_)] 1) = st0 at c0 ⊢
 replace c0 : Kt p e below s₁ st0 (mkF m 0 #[vr x_] []) := c0
 have c1 : Kt p e below s₁ st0 (mkF m 1 #[vr x_] [(rr x_)]) := fun t k => by
  refine c0 t ?_
  show S_ p e below s₁ m 0 #[vr x_] [] t
  refine XS.aloadN X0.here hx rfl (hb hby d5_0) rfl rfl ?_
  exact k
 obtain ⟨T2, X2, e2, c2⟩ := kinit X0 hx hZ hown (w37 hw) (w16 hw) (w17 hw) e0 c1 rfl hml rfl rfl (hb hby d5_1) 0 (own_w rfl) (by decide) (by decide)
 obtain ⟨fs, hr, hrun, hended, hW, hsame⟩ := X2.leave (v := none) (fun _ => rfl)
 refine ⟨_, _, c2 _ ?_, hrun, hended, _, _, rfl, ?_, ⟨_, rfl⟩, hW, hsame.mono (by decide) (by decide)⟩
 ·show S_ p e below T2 m 4 #[vr x_] [] _
  exact X2.returnOut hx Bd.returns (hb hby d5_4) hr
 ·show Q_record Z x_ h0 n0 _ T2.heap _
  rw [e2]
  exact ⟨rfl, N0, rfl⟩
theorem pn_java_util_AbstractCollection : plainName "java/util/AbstractCollection" = true := by first | (simp [plainName, overriddenIn]; done) | decide +kernel
theorem d6_0 : decode jdk_22_method_1_code 0 = .ok (.aload_n 0, 1) := by decide +kernel
theorem d6_1 : decode jdk_22_method_1_code 1 = .ok (.invokespecial 1, 3) := by decide +kernel
theorem d6_4 : decode jdk_22_method_1_code 4 = .ok (.return_, 1) := by decide +kernel
theorem ef_acoll (m : MethodId) (x_ : Addr) : entryFrame m #[(rr x_)] 1 = mkF m 0 #[vr x_] [] := by first | (simp [entryFrame, mkF, argsToLocals, Value.category]; done) | rfl
def Q_acoll (Z : State) (x_ : Addr) (h0 : Heap) (n0 : Nat) (v : Option Value) (h : Heap) (L : List Loc) : Prop := v = none ∧ Fr n0 L ∧ h = h0
set_option maxRecDepth 65536 in
set_option maxHeartbeats 40000000 in
theorem rm_acoll (l : Launch) (Z : State) (a0 : Array Value) (hw : HW Z a0) (ws : List Jvm.Cond) (x_ : Addr) (h0 : Heap) (n0 : Nat) (O0 : Old Z n0 h0) :
  MFP l Z (⟨"java/util/AbstractCollection", "<init>", "()V"⟩ : MethodName) jdk_22_method_1_code 1 none ({ frames := 1, cells := 0, slots := 0, locals := 12 } : Room) ws #[(rr x_)] h0 (Q_acoll Z x_ h0 n0) := by
 refine MetFree.of_bodySF (plainFor_of_name pn_java_util_AbstractCollection) hisR ?_
 intro p e s m args below meth c s₁ Bd hml0 hP hK
 obtain ⟨rfl, hZ, hh⟩ := hP
 have hx := Bd.exec
 have hby := Bd.bytes
 have hml : c.maxLocals = 1 := hml0
 have hown : s.vm.findClass "java/util/AbstractCollection" = some m.cls := findClass_of_methodNamed Bd.named
 have hnm := (name_of_methodNamed Bd.named Bd.method).1
 have X0 : Stand p l e ({ frames := 1, cells := 0, slots := 0, locals := 12 } : Room) s m #[(rr x_)] below meth c s₁ [] 0 0 := Stand.of_body Bd
 have e0 : s₁.heap = h0 := by rw [← hh, Bd.state]; rfl
 have N0 := Fr.nil n0
 have kp0 : Keep h0 h0 [] := Keep.refl _ _
 have c0 : ∀ t, S_ p e below s₁ m 0 #[vr x_] [] t → Steps p.tables e below (s₁.setTop (entryFrame m #[(rr x_)] 1)) t := fun t k => castTop (ef_acoll m x_) k
 generalize s₁.setTop (entryFrame m #[(rr x_)] 1) = st0 at c0 ⊢
 replace c0 : Kt p e below s₁ st0 (mkF m 0 #[vr x_] []) := c0
 have c1 : Kt p e below s₁ st0 (mkF m 1 #[vr x_] [(rr x_)]) := fun t k => by
  refine c0 t ?_
  show S_ p e below s₁ m 0 #[vr x_] [] t
  refine XS.aloadN X0.here hx rfl (hb hby d6_0) rfl rfl ?_
  exact k
 obtain ⟨T2, X2, e2, c2⟩ := kinit X0 hx hZ hown (w81 hw) (w16 hw) (w17 hw) e0 c1 rfl hml rfl rfl (hb hby d6_1) 0 (own_w rfl) (by decide) (by decide)
 obtain ⟨fs, hr, hrun, hended, hW, hsame⟩ := X2.leave (v := none) (fun _ => rfl)
 refine ⟨_, _, c2 _ ?_, hrun, hended, _, _, rfl, ?_, ⟨_, rfl⟩, hW, hsame.mono (by decide) (by decide)⟩
 ·show S_ p e below T2 m 4 #[vr x_] [] _
  exact X2.returnOut hx Bd.returns (hb hby d6_4) hr
 ·show Q_acoll Z x_ h0 n0 _ T2.heap _
  rw [e2]
  exact ⟨rfl, N0, rfl⟩
theorem pn_java_util_ImmutableCollections_AbstractImmutableCollection : plainName nm8 = true := by first | (simp [plainName, overriddenIn]; done) | decide +kernel
theorem d7_0 : decode jdk_47_method_1_code 0 = .ok (.aload_n 0, 1) := by decide +kernel
theorem d7_1 : decode jdk_47_method_1_code 1 = .ok (.invokespecial 1, 3) := by decide +kernel
theorem pd_prV : parseMethodDescriptor "()V" = some ⟨[], none⟩ := by decide +kernel
theorem d7_4 : decode jdk_47_method_1_code 4 = .ok (.return_, 1) := by decide +kernel
theorem ef_aic (m : MethodId) (x_ : Addr) : entryFrame m #[(rr x_)] 1 = mkF m 0 #[vr x_] [] := by first | (simp [entryFrame, mkF, argsToLocals, Value.category]; done) | rfl
def Q_aic (Z : State) (x_ : Addr) (h0 : Heap) (n0 : Nat) (v : Option Value) (h : Heap) (L : List Loc) : Prop := v = none ∧ Fr n0 L ∧ h = h0
set_option maxRecDepth 65536 in
set_option maxHeartbeats 40000000 in
theorem rm_aic (l : Launch) (Z : State) (a0 : Array Value) (hw : HW Z a0) (ws : List Jvm.Cond) (x_ : Addr) (h0 : Heap) (n0 : Nat) (O0 : Old Z n0 h0) :
  MFP l Z (⟨nm8, "<init>", "()V"⟩ : MethodName) jdk_47_method_1_code 1 none ({ frames := 2, cells := 0, slots := 0, locals := 24 } : Room) ws #[(rr x_)] h0 (Q_aic Z x_ h0 n0) := by
 refine MetFree.of_bodySF (plainFor_of_name pn_java_util_ImmutableCollections_AbstractImmutableCollection) hisR ?_
 intro p e s m args below meth c s₁ Bd hml0 hP hK
 obtain ⟨rfl, hZ, hh⟩ := hP
 have hx := Bd.exec
 have hby := Bd.bytes
 have hml : c.maxLocals = 1 := hml0
 have hown : s.vm.findClass nm8 = some m.cls := findClass_of_methodNamed Bd.named
 have hnm := (name_of_methodNamed Bd.named Bd.method).1
 have X0 : Stand p l e ({ frames := 2, cells := 0, slots := 0, locals := 24 } : Room) s m #[(rr x_)] below meth c s₁ [] 0 0 := Stand.of_body Bd
 have e0 : s₁.heap = h0 := by rw [← hh, Bd.state]; rfl
 have N0 := Fr.nil n0
 have kp0 : Keep h0 h0 [] := Keep.refl _ _
 have c0 : ∀ t, S_ p e below s₁ m 0 #[vr x_] [] t → Steps p.tables e below (s₁.setTop (entryFrame m #[(rr x_)] 1)) t := fun t k => castTop (ef_aic m x_) k
 generalize s₁.setTop (entryFrame m #[(rr x_)] 1) = st0 at c0 ⊢
 replace c0 : Kt p e below s₁ st0 (mkF m 0 #[vr x_] []) := c0
 have c1 : Kt p e below s₁ st0 (mkF m 1 #[vr x_] [(rr x_)]) := fun t k => by
  refine c0 t ?_
  show S_ p e below s₁ m 0 #[vr x_] [] t
  refine XS.aloadN X0.here hx rfl (hb hby d7_0) rfl rfl ?_
  exact k
 obtain ⟨_, T2, L2, X2, hQ2, c2⟩ := kspec X0 hx hZ hown (w75 hw) (w76 hw) (w79 hw) (w80 hw) (rm_acoll l Z a0 hw [] x_ h0 n0 O0 ) e0 c1 hml pd_prV x_ [] [] 0 (hb hby d7_1) rfl rfl rfl rfl rfl rfl
 obtain ⟨rfl, N3q, K4⟩ := hQ2
 have N3 := Fr.app N0 N3q
 obtain ⟨fs, hr, hrun, hended, hW, hsame⟩ := X2.leave (v := none) (fun _ => rfl)
 refine ⟨_, _, c2 _ ?_, hrun, hended, _, _, rfl, ?_, ⟨_, rfl⟩, hW, hsame.mono (by decide) (by decide)⟩
 ·show S_ p e below T2 m 4 #[vr x_] [] _
  exact X2.returnOut hx Bd.returns (hb hby d7_4) hr
 ·show Q_aic Z x_ h0 n0 _ T2.heap _
  rw [K4]
  exact ⟨rfl, N3, rfl⟩
theorem pn_java_util_ImmutableCollections_AbstractImmutableList : plainName nm10 = true := by first | (simp [plainName, overriddenIn]; done) | decide +kernel
theorem d8_0 : decode jdk_46_method_1_code 0 = .ok (.aload_n 0, 1) := by decide +kernel
theorem d8_1 : decode jdk_46_method_1_code 1 = .ok (.invokespecial 1, 3) := by decide +kernel
theorem d8_4 : decode jdk_46_method_1_code 4 = .ok (.return_, 1) := by decide +kernel
theorem ef_ail (m : MethodId) (x_ : Addr) : entryFrame m #[(rr x_)] 1 = mkF m 0 #[vr x_] [] := by first | (simp [entryFrame, mkF, argsToLocals, Value.category]; done) | rfl
def Q_ail (Z : State) (x_ : Addr) (h0 : Heap) (n0 : Nat) (v : Option Value) (h : Heap) (L : List Loc) : Prop := v = none ∧ Fr n0 L ∧ h = h0
set_option maxRecDepth 65536 in
set_option maxHeartbeats 40000000 in
theorem rm_ail (l : Launch) (Z : State) (a0 : Array Value) (hw : HW Z a0) (ws : List Jvm.Cond) (x_ : Addr) (h0 : Heap) (n0 : Nat) (O0 : Old Z n0 h0) :
  MFP l Z (⟨nm10, "<init>", "()V"⟩ : MethodName) jdk_46_method_1_code 1 none ({ frames := 3, cells := 0, slots := 0, locals := 36 } : Room) ws #[(rr x_)] h0 (Q_ail Z x_ h0 n0) := by
 refine MetFree.of_bodySF (plainFor_of_name pn_java_util_ImmutableCollections_AbstractImmutableList) hisR ?_
 intro p e s m args below meth c s₁ Bd hml0 hP hK
 obtain ⟨rfl, hZ, hh⟩ := hP
 have hx := Bd.exec
 have hby := Bd.bytes
 have hml : c.maxLocals = 1 := hml0
 have hown : s.vm.findClass nm10 = some m.cls := findClass_of_methodNamed Bd.named
 have hnm := (name_of_methodNamed Bd.named Bd.method).1
 have X0 : Stand p l e ({ frames := 3, cells := 0, slots := 0, locals := 36 } : Room) s m #[(rr x_)] below meth c s₁ [] 0 0 := Stand.of_body Bd
 have e0 : s₁.heap = h0 := by rw [← hh, Bd.state]; rfl
 have N0 := Fr.nil n0
 have kp0 : Keep h0 h0 [] := Keep.refl _ _
 have c0 : ∀ t, S_ p e below s₁ m 0 #[vr x_] [] t → Steps p.tables e below (s₁.setTop (entryFrame m #[(rr x_)] 1)) t := fun t k => castTop (ef_ail m x_) k
 generalize s₁.setTop (entryFrame m #[(rr x_)] 1) = st0 at c0 ⊢
 replace c0 : Kt p e below s₁ st0 (mkF m 0 #[vr x_] []) := c0
 have c1 : Kt p e below s₁ st0 (mkF m 1 #[vr x_] [(rr x_)]) := fun t k => by
  refine c0 t ?_
  show S_ p e below s₁ m 0 #[vr x_] [] t
  refine XS.aloadN X0.here hx rfl (hb hby d8_0) rfl rfl ?_
  exact k
 obtain ⟨_, T2, L2, X2, hQ2, c2⟩ := kspec X0 hx hZ hown (w69 hw) (w70 hw) (w73 hw) (w74 hw) (rm_aic l Z a0 hw [] x_ h0 n0 O0 ) e0 c1 hml pd_prV x_ [] [] 0 (hb hby d8_1) rfl rfl rfl rfl rfl rfl
 obtain ⟨rfl, N3q, K4⟩ := hQ2
 have N3 := Fr.app N0 N3q
 obtain ⟨fs, hr, hrun, hended, hW, hsame⟩ := X2.leave (v := none) (fun _ => rfl)
 refine ⟨_, _, c2 _ ?_, hrun, hended, _, _, rfl, ?_, ⟨_, rfl⟩, hW, hsame.mono (by decide) (by decide)⟩
 ·show S_ p e below T2 m 4 #[vr x_] [] _
  exact X2.returnOut hx Bd.returns (hb hby d8_4) hr
 ·show Q_ail Z x_ h0 n0 _ T2.heap _
  rw [K4]
  exact ⟨rfl, N3, rfl⟩
theorem pn_portcullis_catalog_Scope : plainName nm2 = true := by first | (simp [plainName, overriddenIn]; done) | decide +kernel
theorem d9_0 : decode prog_6_method_1_code 0 = .ok (.aload_n 0, 1) := by decide +kernel
theorem d9_1 : decode prog_6_method_1_code 1 = .ok (.invokespecial 1, 3) := by decide +kernel
theorem d9_4 : decode prog_6_method_1_code 4 = .ok (.aload_n 0, 1) := by decide +kernel
theorem d9_5 : decode prog_6_method_1_code 5 = .ok (.aload_n 1, 1) := by decide +kernel
theorem d9_6 : decode prog_6_method_1_code 6 = .ok (.putfield 7, 3) := by decide +kernel
theorem d9_9 : decode prog_6_method_1_code 9 = .ok (.return_, 1) := by decide +kernel
theorem ef_scopeN (m : MethodId) (x_ : Addr) : entryFrame m #[(rr x_), .null] 2 = mkF m 0 #[vr x_, .val .null] [] := by first | (simp [entryFrame, mkF, argsToLocals, Value.category]; done) | rfl
def Q_scopeN (Z : State) (x_ : Addr) (h0 : Heap) (n0 : Nat) (v : Option Value) (h : Heap) (L : List Loc) : Prop := v = none ∧ Fr n0 L ∧ Keep h0 h [x_] ∧ Exa Z h x_ nm2 ∧ Fld Z h x_ nm2 "container" "Ljava/lang/String;" .null
set_option maxRecDepth 65536 in
set_option maxHeartbeats 40000000 in
theorem rm_scopeN (l : Launch) (Z : State) (a0 : Array Value) (hw : HW Z a0) (ws : List Jvm.Cond) (x_ : Addr) (h0 : Heap) (n0 : Nat) (O0 : Old Z n0 h0) (E0_ : Exa Z h0 x_ nm2) (F1_ : Fld Z h0 x_ nm2 "container" "Ljava/lang/String;" .null) (G2_ : n0 ≤ x_) :
  MFP l Z (⟨nm2, "<init>", "(Ljava/lang/String;)V"⟩ : MethodName) prog_6_method_1_code 2 none ({ frames := 2, cells := 0, slots := 0, locals := 24 } : Room) ws #[(rr x_), .null] h0 (Q_scopeN Z x_ h0 n0) := by
 refine MetFree.of_bodySF (plainFor_of_name pn_portcullis_catalog_Scope) hisR ?_
 intro p e s m args below meth c s₁ Bd hml0 hP hK
 obtain ⟨rfl, hZ, hh⟩ := hP
 have hx := Bd.exec
 have hby := Bd.bytes
 have hml : c.maxLocals = 2 := hml0
 have hown : s.vm.findClass nm2 = some m.cls := findClass_of_methodNamed Bd.named
 have hnm := (name_of_methodNamed Bd.named Bd.method).1
 have X0 : Stand p l e ({ frames := 2, cells := 0, slots := 0, locals := 24 } : Room) s m #[(rr x_), .null] below meth c s₁ [] 0 0 := Stand.of_body Bd
 have e0 : s₁.heap = h0 := by rw [← hh, Bd.state]; rfl
 have N0 := Fr.nil n0
 have kp0 : Keep h0 h0 [x_] := Keep.refl _ _
 have c0 : ∀ t, S_ p e below s₁ m 0 #[vr x_, .val .null] [] t → Steps p.tables e below (s₁.setTop (entryFrame m #[(rr x_), .null] 2)) t := fun t k => castTop (ef_scopeN m x_) k
 generalize s₁.setTop (entryFrame m #[(rr x_), .null] 2) = st0 at c0 ⊢
 replace c0 : Kt p e below s₁ st0 (mkF m 0 #[vr x_, .val .null] []) := c0
 have c1 : Kt p e below s₁ st0 (mkF m 1 #[vr x_, .val .null] [(rr x_)]) := fun t k => by
  refine c0 t ?_
  show S_ p e below s₁ m 0 #[vr x_, .val .null] [] t
  refine XS.aloadN X0.here hx rfl (hb hby d9_0) rfl rfl ?_
  exact k
 obtain ⟨_, T2, L2, X2, hQ2, c2⟩ := kspec X0 hx hZ hown (w32 hw) (w33 hw) (w35 hw) (w36 hw) (rm_record l Z a0 hw [] x_ h0 n0 O0 ) e0 c1 hml pd_prV x_ [] [] 0 (hb hby d9_1) rfl rfl rfl rfl rfl rfl
 obtain ⟨rfl, N3q, K4⟩ := hQ2
 have N3 := Fr.app N0 N3q
 have c5 : Kt p e below T2 st0 (mkF m 6 #[vr x_, .val .null] [.null, (rr x_)]) := fun t k => by
  refine c2 t ?_
  show S_ p e below T2 m 4 #[vr x_, .val .null] [] t
  refine XS.aloadN X2.here hx rfl (hb hby d9_4) rfl rfl ?_
  show S_ p e below T2 m 5 #[vr x_, .val .null] [(rr x_)] t
  refine XS.aloadN X2.here hx rfl (hb hby d9_5) rfl rfl ?_
  exact k
 obtain ⟨T6, h6, X6, e6, W6, f7, o9, N8, c6⟩ := kput X2 hx hZ (.object nm1) hown (host := "") (Or.inl (w38 hw)) Via.refl K4 F1_ E0_ (Or.inr ⟨(w39 hw), rfl, hnm⟩) (w27 hw) c5 rfl rfl (hb hby d9_6) (by decide) rfl rfl O0 N3 G2_
 have kp10 := kp0.wr W6 (Or.inl (List.mem_of_getElem? (i := 0) rfl))
 obtain ⟨fs, hr, hrun, hended, hW, hsame⟩ := X6.leave (v := none) (fun _ => rfl)
 refine ⟨_, _, c6 _ ?_, hrun, hended, _, _, rfl, ?_, ⟨_, rfl⟩, hW, hsame.mono (by decide) (by decide)⟩
 ·show S_ p e below T6 m 9 #[vr x_, .val .null] [] _
  exact X6.returnOut hx Bd.returns (hb hby d9_9) hr
 ·show Q_scopeN Z x_ h0 n0 _ T6.heap _
  rw [e6]
  exact ⟨rfl, N8, kp10, (E0_.wr W6), f7⟩
theorem ef_scopeR (m : MethodId) (x_ : Addr) (y_ : Addr) : entryFrame m #[(rr x_), (rr y_)] 2 = mkF m 0 #[vr x_, vr y_] [] := by first | (simp [entryFrame, mkF, argsToLocals, Value.category]; done) | rfl
def Q_scopeR (Z : State) (x_ : Addr) (y_ : Addr) (h0 : Heap) (n0 : Nat) (v : Option Value) (h : Heap) (L : List Loc) : Prop := v = none ∧ Fr n0 L ∧ Keep h0 h [x_] ∧ Exa Z h x_ nm2 ∧ Fld Z h x_ nm2 "container" "Ljava/lang/String;" (rr y_)
set_option maxRecDepth 65536 in
set_option maxHeartbeats 40000000 in
theorem rm_scopeR (l : Launch) (Z : State) (a0 : Array Value) (hw : HW Z a0) (ws : List Jvm.Cond) (x_ : Addr) (y_ : Addr) (h0 : Heap) (n0 : Nat) (O0 : Old Z n0 h0) (E0_ : Exa Z h0 x_ nm2) (F1_ : Fld Z h0 x_ nm2 "container" "Ljava/lang/String;" .null) (G2_ : n0 ≤ x_) :
  MFP l Z (⟨nm2, "<init>", "(Ljava/lang/String;)V"⟩ : MethodName) prog_6_method_1_code 2 none ({ frames := 2, cells := 0, slots := 0, locals := 24 } : Room) ws #[(rr x_), (rr y_)] h0 (Q_scopeR Z x_ y_ h0 n0) := by
 refine MetFree.of_bodySF (plainFor_of_name pn_portcullis_catalog_Scope) hisR ?_
 intro p e s m args below meth c s₁ Bd hml0 hP hK
 obtain ⟨rfl, hZ, hh⟩ := hP
 have hx := Bd.exec
 have hby := Bd.bytes
 have hml : c.maxLocals = 2 := hml0
 have hown : s.vm.findClass nm2 = some m.cls := findClass_of_methodNamed Bd.named
 have hnm := (name_of_methodNamed Bd.named Bd.method).1
 have X0 : Stand p l e ({ frames := 2, cells := 0, slots := 0, locals := 24 } : Room) s m #[(rr x_), (rr y_)] below meth c s₁ [] 0 0 := Stand.of_body Bd
 have e0 : s₁.heap = h0 := by rw [← hh, Bd.state]; rfl
 have N0 := Fr.nil n0
 have kp0 : Keep h0 h0 [x_] := Keep.refl _ _
 have c0 : ∀ t, S_ p e below s₁ m 0 #[vr x_, vr y_] [] t → Steps p.tables e below (s₁.setTop (entryFrame m #[(rr x_), (rr y_)] 2)) t := fun t k => castTop (ef_scopeR m x_ y_) k
 generalize s₁.setTop (entryFrame m #[(rr x_), (rr y_)] 2) = st0 at c0 ⊢
 replace c0 : Kt p e below s₁ st0 (mkF m 0 #[vr x_, vr y_] []) := c0
 have c1 : Kt p e below s₁ st0 (mkF m 1 #[vr x_, vr y_] [(rr x_)]) := fun t k => by
  refine c0 t ?_
  show S_ p e below s₁ m 0 #[vr x_, vr y_] [] t
  refine XS.aloadN X0.here hx rfl (hb hby d9_0) rfl rfl ?_
  exact k
 obtain ⟨_, T2, L2, X2, hQ2, c2⟩ := kspec X0 hx hZ hown (w32 hw) (w33 hw) (w35 hw) (w36 hw) (rm_record l Z a0 hw [] x_ h0 n0 O0 ) e0 c1 hml pd_prV x_ [] [] 0 (hb hby d9_1) rfl rfl rfl rfl rfl rfl
 obtain ⟨rfl, N3q, K4⟩ := hQ2
 have N3 := Fr.app N0 N3q
 have c5 : Kt p e below T2 st0 (mkF m 6 #[vr x_, vr y_] [(rr y_), (rr x_)]) := fun t k => by
  refine c2 t ?_
  show S_ p e below T2 m 4 #[vr x_, vr y_] [] t
  refine XS.aloadN X2.here hx rfl (hb hby d9_4) rfl rfl ?_
  show S_ p e below T2 m 5 #[vr x_, vr y_] [(rr x_)] t
  refine XS.aloadN X2.here hx rfl (hb hby d9_5) rfl rfl ?_
  exact k
 obtain ⟨T6, h6, X6, e6, W6, f7, o9, N8, c6⟩ := kput X2 hx hZ (.object nm1) hown (host := "") (Or.inl (w38 hw)) Via.refl K4 F1_ E0_ (Or.inr ⟨(w39 hw), rfl, hnm⟩) (w27 hw) c5 rfl rfl (hb hby d9_6) (by decide) rfl rfl O0 N3 G2_
 have kp10 := kp0.wr W6 (Or.inl (List.mem_of_getElem? (i := 0) rfl))
 obtain ⟨fs, hr, hrun, hended, hW, hsame⟩ := X6.leave (v := none) (fun _ => rfl)
 refine ⟨_, _, c6 _ ?_, hrun, hended, _, _, rfl, ?_, ⟨_, rfl⟩, hW, hsame.mono (by decide) (by decide)⟩
 ·show S_ p e below T6 m 9 #[vr x_, vr y_] [] _
  exact X6.returnOut hx Bd.returns (hb hby d9_9) hr
 ·show Q_scopeR Z x_ y_ h0 n0 _ T6.heap _
  rw [e6]
  exact ⟨rfl, N8, kp10, (E0_.wr W6), f7⟩
theorem d10_0 : decode prog_6_method_3_code 0 = .ok (.aload_n 0, 1) := by decide +kernel
theorem d10_1 : decode prog_6_method_3_code 1 = .ok (.getfield 7, 3) := by decide +kernel
theorem d10_4 : decode prog_6_method_3_code 4 = .ok (.ifnonnull 7, 3) := by decide +kernel
theorem d10_7 : decode prog_6_method_3_code 7 = .ok (.iconst 1, 1) := by decide +kernel
theorem d10_8 : decode prog_6_method_3_code 8 = .ok (.goto 4, 3) := by decide +kernel
theorem d10_12 : decode prog_6_method_3_code 12 = .ok (.ireturn, 1) := by decide +kernel
theorem ef_comT (m : MethodId) (x_ : Addr) : entryFrame m #[(rr x_)] 1 = mkF m 0 #[vr x_] [] := by first | (simp [entryFrame, mkF, argsToLocals, Value.category]; done) | rfl
def Q_comT (Z : State) (x_ : Addr) (h0 : Heap) (n0 : Nat) (v : Option Value) (h : Heap) (L : List Loc) : Prop := v = some (ii 1) ∧ Fr n0 L ∧ h = h0
set_option maxRecDepth 65536 in
set_option maxHeartbeats 40000000 in
theorem rm_comT (l : Launch) (Z : State) (a0 : Array Value) (hw : HW Z a0) (ws : List Jvm.Cond) (x_ : Addr) (h0 : Heap) (n0 : Nat) (O0 : Old Z n0 h0) (F0_ : Fld Z h0 x_ nm2 "container" "Ljava/lang/String;" .null) :
  MFP l Z (⟨nm2, "common", "()Z"⟩ : MethodName) prog_6_method_3_code 1 (some .boolean) ({ frames := 0, cells := 0, slots := 0, locals := 0 } : Room) ws #[(rr x_)] h0 (Q_comT Z x_ h0 n0) := by
 refine MetFree.of_bodySF (plainFor_of_name pn_portcullis_catalog_Scope) hisR ?_
 intro p e s m args below meth c s₁ Bd hml0 hP hK
 obtain ⟨rfl, hZ, hh⟩ := hP
 have hx := Bd.exec
 have hby := Bd.bytes
 have hml : c.maxLocals = 1 := hml0
 have hown : s.vm.findClass nm2 = some m.cls := findClass_of_methodNamed Bd.named
 have hnm := (name_of_methodNamed Bd.named Bd.method).1
 have X0 : Stand p l e ({ frames := 0, cells := 0, slots := 0, locals := 0 } : Room) s m #[(rr x_)] below meth c s₁ [] 0 0 := Stand.of_body Bd
 have e0 : s₁.heap = h0 := by rw [← hh, Bd.state]; rfl
 have N0 := Fr.nil n0
 have kp0 : Keep h0 h0 [] := Keep.refl _ _
 have c0 : ∀ t, S_ p e below s₁ m 0 #[vr x_] [] t → Steps p.tables e below (s₁.setTop (entryFrame m #[(rr x_)] 1)) t := fun t k => castTop (ef_comT m x_) k
 generalize s₁.setTop (entryFrame m #[(rr x_)] 1) = st0 at c0 ⊢
 replace c0 : Kt p e below s₁ st0 (mkF m 0 #[vr x_] []) := c0
 have c1 : Kt p e below s₁ st0 (mkF m 1 #[vr x_] [(rr x_)]) := fun t k => by
  refine c0 t ?_
  show S_ p e below s₁ m 0 #[vr x_] [] t
  refine XS.aloadN X0.here hx rfl (hb hby d10_0) rfl rfl ?_
  exact k
 obtain ⟨T2, X2, e2, c2⟩ := kget X0 hx hZ hown (host := "") (Or.inl (w38 hw)) Via.refl e0 F0_ c1 rfl rfl (hb hby d10_1)
 obtain ⟨fs, hr, hrun, hended, hW, hsame⟩ := X2.leave (v := some (ii 1)) (fun h => by rw [Bd.returns] at h; cases h)
 refine ⟨_, _, c2 _ ?_, hrun, hended, _, _, rfl, ?_, ⟨_, rfl⟩, hW, hsame.mono (by decide) (by decide)⟩
 ·show S_ p e below T2 m 4 #[vr x_] [.null] _
  refine XS.ifnonnullNo X2.here hx rfl (hb hby d10_4) rfl ?_
  show S_ p e below T2 m 7 #[vr x_] [] _
  refine XS.iconst X2.here hx rfl (hb hby d10_7) ?_
  show S_ p e below T2 m 8 #[vr x_] [(ii 1)] _
  refine yG X2.here hx rfl 8 12 rfl (hb hby d10_8) ?_
  show S_ p e below T2 m 12 #[vr x_] [(ii 1)] _
  exact retN X2 hx (t := .boolean) Bd.returns (by simp) (hb hby d10_12) hr
 ·show Q_comT Z x_ h0 n0 _ T2.heap _
  rw [e2]
  exact ⟨rfl, N0, rfl⟩
theorem d10_11 : decode prog_6_method_3_code 11 = .ok (.iconst 0, 1) := by decide +kernel
theorem ef_comF (m : MethodId) (x_ : Addr) : entryFrame m #[(rr x_)] 1 = mkF m 0 #[vr x_] [] := by first | (simp [entryFrame, mkF, argsToLocals, Value.category]; done) | rfl
def Q_comF (Z : State) (x_ : Addr) (y_ : Addr) (h0 : Heap) (n0 : Nat) (v : Option Value) (h : Heap) (L : List Loc) : Prop := v = some (ii 0) ∧ Fr n0 L ∧ h = h0
set_option maxRecDepth 65536 in
set_option maxHeartbeats 40000000 in
theorem rm_comF (l : Launch) (Z : State) (a0 : Array Value) (hw : HW Z a0) (ws : List Jvm.Cond) (x_ : Addr) (y_ : Addr) (h0 : Heap) (n0 : Nat) (O0 : Old Z n0 h0) (F0_ : Fld Z h0 x_ nm2 "container" "Ljava/lang/String;" (rr y_)) :
  MFP l Z (⟨nm2, "common", "()Z"⟩ : MethodName) prog_6_method_3_code 1 (some .boolean) ({ frames := 0, cells := 0, slots := 0, locals := 0 } : Room) ws #[(rr x_)] h0 (Q_comF Z x_ y_ h0 n0) := by
 refine MetFree.of_bodySF (plainFor_of_name pn_portcullis_catalog_Scope) hisR ?_
 intro p e s m args below meth c s₁ Bd hml0 hP hK
 obtain ⟨rfl, hZ, hh⟩ := hP
 have hx := Bd.exec
 have hby := Bd.bytes
 have hml : c.maxLocals = 1 := hml0
 have hown : s.vm.findClass nm2 = some m.cls := findClass_of_methodNamed Bd.named
 have hnm := (name_of_methodNamed Bd.named Bd.method).1
 have X0 : Stand p l e ({ frames := 0, cells := 0, slots := 0, locals := 0 } : Room) s m #[(rr x_)] below meth c s₁ [] 0 0 := Stand.of_body Bd
 have e0 : s₁.heap = h0 := by rw [← hh, Bd.state]; rfl
 have N0 := Fr.nil n0
 have kp0 : Keep h0 h0 [] := Keep.refl _ _
 have c0 : ∀ t, S_ p e below s₁ m 0 #[vr x_] [] t → Steps p.tables e below (s₁.setTop (entryFrame m #[(rr x_)] 1)) t := fun t k => castTop (ef_comF m x_) k
 generalize s₁.setTop (entryFrame m #[(rr x_)] 1) = st0 at c0 ⊢
 replace c0 : Kt p e below s₁ st0 (mkF m 0 #[vr x_] []) := c0
 have c1 : Kt p e below s₁ st0 (mkF m 1 #[vr x_] [(rr x_)]) := fun t k => by
  refine c0 t ?_
  show S_ p e below s₁ m 0 #[vr x_] [] t
  refine XS.aloadN X0.here hx rfl (hb hby d10_0) rfl rfl ?_
  exact k
 obtain ⟨T2, X2, e2, c2⟩ := kget X0 hx hZ hown (host := "") (Or.inl (w38 hw)) Via.refl e0 F0_ c1 rfl rfl (hb hby d10_1)
 obtain ⟨fs, hr, hrun, hended, hW, hsame⟩ := X2.leave (v := some (ii 0)) (fun h => by rw [Bd.returns] at h; cases h)
 refine ⟨_, _, c2 _ ?_, hrun, hended, _, _, rfl, ?_, ⟨_, rfl⟩, hW, hsame.mono (by decide) (by decide)⟩
 ·show S_ p e below T2 m 4 #[vr x_] [(rr y_)] _
  refine XS.ifnonnullYes X2.here hx rfl (pc0 := 4) (pc' := 11) rfl (hb hby d10_4) rfl (by decide) (by decide) ?_
  show S_ p e below T2 m 11 #[vr x_] [] _
  refine XS.iconst X2.here hx rfl (hb hby d10_11) ?_
  show S_ p e below T2 m 12 #[vr x_] [(ii 0)] _
  exact retN X2 hx (t := .boolean) Bd.returns (by simp) (hb hby d10_12) hr
 ·show Q_comF Z x_ y_ h0 n0 _ T2.heap _
  rw [e2]
  exact ⟨rfl, N0, rfl⟩
theorem pn_java_util_Objects : plainName "java/util/Objects" = true := by first | (simp [plainName, overriddenIn]; done) | decide +kernel
theorem d11_0 : decode jdk_31_method_10_code 0 = .ok (.aload_n 0, 1) := by decide +kernel
theorem d11_1 : decode jdk_31_method_10_code 1 = .ok (.ifnonnull 11, 3) := by decide +kernel
theorem d11_12 : decode jdk_31_method_10_code 12 = .ok (.aload_n 0, 1) := by decide +kernel
theorem d11_13 : decode jdk_31_method_10_code 13 = .ok (.areturn, 1) := by decide +kernel
theorem ef_rnn (m : MethodId) (x_ : Addr) : entryFrame m #[(rr x_)] 1 = mkF m 0 #[vr x_] [] := by first | (simp [entryFrame, mkF, argsToLocals, Value.category]; done) | rfl
def Q_rnn (Z : State) (x_ : Addr) (h0 : Heap) (n0 : Nat) (v : Option Value) (h : Heap) (L : List Loc) : Prop := v = some (rr x_) ∧ Fr n0 L ∧ h = h0
set_option maxRecDepth 65536 in
set_option maxHeartbeats 40000000 in
theorem rm_rnn (l : Launch) (Z : State) (a0 : Array Value) (hw : HW Z a0) (ws : List Jvm.Cond) (x_ : Addr) (h0 : Heap) (n0 : Nat) (O0 : Old Z n0 h0) :
  MFP l Z (⟨"java/util/Objects", "requireNonNull", "(Ljava/lang/Object;)Ljava/lang/Object;"⟩ : MethodName) jdk_31_method_10_code 1 (some (.object nm6)) ({ frames := 0, cells := 0, slots := 0, locals := 0 } : Room) ws #[(rr x_)] h0 (Q_rnn Z x_ h0 n0) := by
 refine MetFree.of_bodySF (plainFor_of_name pn_java_util_Objects) hisR ?_
 intro p e s m args below meth c s₁ Bd hml0 hP hK
 obtain ⟨rfl, hZ, hh⟩ := hP
 have hx := Bd.exec
 have hby := Bd.bytes
 have hml : c.maxLocals = 1 := hml0
 have hown : s.vm.findClass "java/util/Objects" = some m.cls := findClass_of_methodNamed Bd.named
 have hnm := (name_of_methodNamed Bd.named Bd.method).1
 have X0 : Stand p l e ({ frames := 0, cells := 0, slots := 0, locals := 0 } : Room) s m #[(rr x_)] below meth c s₁ [] 0 0 := Stand.of_body Bd
 have e0 : s₁.heap = h0 := by rw [← hh, Bd.state]; rfl
 have N0 := Fr.nil n0
 have kp0 : Keep h0 h0 [] := Keep.refl _ _
 have c0 : ∀ t, S_ p e below s₁ m 0 #[vr x_] [] t → Steps p.tables e below (s₁.setTop (entryFrame m #[(rr x_)] 1)) t := fun t k => castTop (ef_rnn m x_) k
 generalize s₁.setTop (entryFrame m #[(rr x_)] 1) = st0 at c0 ⊢
 replace c0 : Kt p e below s₁ st0 (mkF m 0 #[vr x_] []) := c0
 obtain ⟨fs, hr, hrun, hended, hW, hsame⟩ := X0.leave (v := some (rr x_)) (fun h => by rw [Bd.returns] at h; cases h)
 refine ⟨_, _, c0 _ ?_, hrun, hended, _, _, rfl, ?_, ⟨_, rfl⟩, hW, hsame.mono (by decide) (by decide)⟩
 ·show S_ p e below s₁ m 0 #[vr x_] [] _
  refine XS.aloadN X0.here hx rfl (hb hby d11_0) rfl rfl ?_
  show S_ p e below s₁ m 1 #[vr x_] [(rr x_)] _
  refine XS.ifnonnullYes X0.here hx rfl (pc0 := 1) (pc' := 12) rfl (hb hby d11_1) rfl (by decide) (by decide) ?_
  show S_ p e below s₁ m 12 #[vr x_] [] _
  refine XS.aloadN X0.here hx rfl (hb hby d11_12) rfl rfl ?_
  show S_ p e below s₁ m 13 #[vr x_] [(rr x_)] _
  exact retOut X0 hx Bd.returns rfl (Or.inr (Or.inr (Or.inr (Or.inr ⟨rfl, rfl, rfl⟩)))) (hb hby d11_13) hr
 ·show Q_rnn Z x_ h0 n0 _ s₁.heap _
  rw [e0]
  exact ⟨rfl, N0, rfl⟩
theorem pn_java_util_ImmutableCollections_List12 : plainName nm0 = true := by first | (simp [plainName, overriddenIn]; done) | decide +kernel
theorem d12_0 : decode jdk_44_method_2_code 0 = .ok (.aload_n 0, 1) := by decide +kernel
theorem d12_1 : decode jdk_44_method_2_code 1 = .ok (.invokespecial 1, 3) := by decide +kernel
theorem d12_4 : decode jdk_44_method_2_code 4 = .ok (.aload_n 0, 1) := by decide +kernel
theorem d12_5 : decode jdk_44_method_2_code 5 = .ok (.aload_n 1, 1) := by decide +kernel
theorem d12_6 : decode jdk_44_method_2_code 6 = .ok (.invokestatic 7, 3) := by decide +kernel
theorem pd_pLjava_lang_Object_rLjava_lang_Object_ : parseMethodDescriptor "(Ljava/lang/Object;)Ljava/lang/Object;" = some ⟨[(.object nm6)], some (.object nm6)⟩ := by decide +kernel
theorem d12_9 : decode jdk_44_method_2_code 9 = .ok (.putfield 13, 3) := by decide +kernel
theorem d12_12 : decode jdk_44_method_2_code 12 = .ok (.aload_n 0, 1) := by decide +kernel
theorem d12_13 : decode jdk_44_method_2_code 13 = .ok (.aload_n 2, 1) := by decide +kernel
theorem d12_14 : decode jdk_44_method_2_code 14 = .ok (.invokestatic 7, 3) := by decide +kernel
theorem d12_17 : decode jdk_44_method_2_code 17 = .ok (.putfield 24, 3) := by decide +kernel
theorem d12_20 : decode jdk_44_method_2_code 20 = .ok (.return_, 1) := by decide +kernel
theorem ef_l12_2 (m : MethodId) (x_ : Addr) (y_ : Addr) (z_ : Addr) : entryFrame m #[(rr x_), (rr y_), (rr z_)] 3 = mkF m 0 #[vr x_, vr y_, vr z_] [] := by first | (simp [entryFrame, mkF, argsToLocals, Value.category]; done) | rfl
def Q_l12_2 (Z : State) (x_ : Addr) (y_ : Addr) (z_ : Addr) (h0 : Heap) (n0 : Nat) (v : Option Value) (h : Heap) (L : List Loc) : Prop := v = none ∧ Fr n0 L ∧ Keep h0 h [x_] ∧ Exa Z h x_ nm0 ∧ Fld Z h x_ nm0 "e0" nm4 (rr y_) ∧ Fld Z h x_ nm0 "e1" nm4 (rr z_)
set_option maxRecDepth 65536 in
set_option maxHeartbeats 40000000 in
theorem rm_l12_2 (l : Launch) (Z : State) (a0 : Array Value) (hw : HW Z a0) (ws : List Jvm.Cond) (x_ : Addr) (y_ : Addr) (z_ : Addr) (h0 : Heap) (n0 : Nat) (O0 : Old Z n0 h0) (E0_ : Exa Z h0 x_ nm0) (F1_ : Fld Z h0 x_ nm0 "e0" nm4 .null) (F2_ : Fld Z h0 x_ nm0 "e1" nm4 .null) (G3_ : n0 ≤ x_) :
  MFP l Z (⟨nm0, "<init>", "(Ljava/lang/Object;Ljava/lang/Object;)V"⟩ : MethodName) jdk_44_method_2_code 3 none ({ frames := 4, cells := 0, slots := 0, locals := 48 } : Room) ws #[(rr x_), (rr y_), (rr z_)] h0 (Q_l12_2 Z x_ y_ z_ h0 n0) := by
 refine MetFree.of_bodySF (plainFor_of_name pn_java_util_ImmutableCollections_List12) hisR ?_
 intro p e s m args below meth c s₁ Bd hml0 hP hK
 obtain ⟨rfl, hZ, hh⟩ := hP
 have hx := Bd.exec
 have hby := Bd.bytes
 have hml : c.maxLocals = 3 := hml0
 have hown : s.vm.findClass nm0 = some m.cls := findClass_of_methodNamed Bd.named
 have hnm := (name_of_methodNamed Bd.named Bd.method).1
 have X0 : Stand p l e ({ frames := 4, cells := 0, slots := 0, locals := 48 } : Room) s m #[(rr x_), (rr y_), (rr z_)] below meth c s₁ [] 0 0 := Stand.of_body Bd
 have e0 : s₁.heap = h0 := by rw [← hh, Bd.state]; rfl
 have N0 := Fr.nil n0
 have kp0 : Keep h0 h0 [x_] := Keep.refl _ _
 have c0 : ∀ t, S_ p e below s₁ m 0 #[vr x_, vr y_, vr z_] [] t → Steps p.tables e below (s₁.setTop (entryFrame m #[(rr x_), (rr y_), (rr z_)] 3)) t := fun t k => castTop (ef_l12_2 m x_ y_ z_) k
 generalize s₁.setTop (entryFrame m #[(rr x_), (rr y_), (rr z_)] 3) = st0 at c0 ⊢
 replace c0 : Kt p e below s₁ st0 (mkF m 0 #[vr x_, vr y_, vr z_] []) := c0
 have c1 : Kt p e below s₁ st0 (mkF m 1 #[vr x_, vr y_, vr z_] [(rr x_)]) := fun t k => by
  refine c0 t ?_
  show S_ p e below s₁ m 0 #[vr x_, vr y_, vr z_] [] t
  refine XS.aloadN X0.here hx rfl (hb hby d12_0) rfl rfl ?_
  exact k
 obtain ⟨_, T2, L2, X2, hQ2, c2⟩ := kspec X0 hx hZ hown (w63 hw) (w64 hw) (w67 hw) (w68 hw) (rm_ail l Z a0 hw [] x_ h0 n0 O0 ) e0 c1 hml pd_prV x_ [] [] 0 (hb hby d12_1) rfl rfl rfl rfl rfl rfl
 obtain ⟨rfl, N3q, K4⟩ := hQ2
 have N3 := Fr.app N0 N3q
 have c5 : Kt p e below T2 st0 (mkF m 6 #[vr x_, vr y_, vr z_] [(rr y_), (rr x_)]) := fun t k => by
  refine c2 t ?_
  show S_ p e below T2 m 4 #[vr x_, vr y_, vr z_] [] t
  refine XS.aloadN X2.here hx rfl (hb hby d12_4) rfl rfl ?_
  show S_ p e below T2 m 5 #[vr x_, vr y_, vr z_] [(rr x_)] t
  refine XS.aloadN X2.here hx rfl (hb hby d12_5) rfl rfl ?_
  exact k
 obtain ⟨_, T6, L6, X6, hQ6, c6⟩ := kstat X2 hx hZ hown (w82 hw) (w83 hw) (w84 hw) (w85 hw) (rm_rnn l Z a0 hw [] y_ h0 n0 O0 ) K4 c5 hml pd_pLjava_lang_Object_rLjava_lang_Object_ [(rr y_)] [(rr x_)] 1 (hb hby d12_6) rfl rfl rfl rfl rfl rfl
 obtain ⟨rfl, N7q, K8⟩ := hQ6
 have N7 := Fr.app N3 N7q
 obtain ⟨T9, h9, X9, e9, W9, f10, o12, N11, c9⟩ := kput X6 hx hZ (.object nm6) hown (host := "") (Or.inl (w86 hw)) Via.refl K8 F1_ E0_ (Or.inr ⟨(w87 hw), rfl, hnm⟩) (w57 hw) c6 rfl rfl (hb hby d12_9) (by decide) rfl rfl O0 N7 G3_
 have kp13 := kp0.wr W9 (Or.inl (List.mem_of_getElem? (i := 0) rfl))
 have c14 : Kt p e below T9 st0 (mkF m 14 #[vr x_, vr y_, vr z_] [(rr z_), (rr x_)]) := fun t k => by
  refine c9 t ?_
  show S_ p e below T9 m 12 #[vr x_, vr y_, vr z_] [] t
  refine XS.aloadN X9.here hx rfl (hb hby d12_12) rfl rfl ?_
  show S_ p e below T9 m 13 #[vr x_, vr y_, vr z_] [(rr x_)] t
  refine XS.aloadN X9.here hx rfl (hb hby d12_13) rfl rfl ?_
  exact k
 obtain ⟨_, T15, L15, X15, hQ15, c15⟩ := kstat X9 hx hZ hown (w82 hw) (w83 hw) (w84 hw) (w85 hw) (rm_rnn l Z a0 hw [] z_ h9 n0 o12 ) e9 c14 hml pd_pLjava_lang_Object_rLjava_lang_Object_ [(rr z_)] [(rr x_)] 1 (hb hby d12_14) rfl rfl rfl rfl rfl rfl
 obtain ⟨rfl, N16q, K17⟩ := hQ15
 have N16 := Fr.app N11 N16q
 have f18 := F2_.other W9 (Or.inr (slot_ne (Or.inr (w89 hw)) (Or.inr (w87 hw)) (by decide) (t := (.object nm6)) (t' := (.object nm6)) (by decide) (by decide)))
 obtain ⟨T19, h19, X19, e19, W19, f20, o22, N21, c19⟩ := kput X15 hx hZ (.object nm6) hown (host := "") (Or.inl (w88 hw)) Via.refl K17 f18 (E0_.wr W9) (Or.inr ⟨(w89 hw), rfl, hnm⟩) (w57 hw) c15 rfl rfl (hb hby d12_17) (by decide) rfl rfl o12 N16 G3_
 have kp23 := kp13.wr W19 (Or.inl (List.mem_of_getElem? (i := 0) rfl))
 have f24 := f10.other W19 (Or.inr (slot_ne (Or.inr (w87 hw)) (Or.inr (w89 hw)) (by decide) (t := (.object nm6)) (t' := (.object nm6)) (by decide) (by decide)))
 obtain ⟨fs, hr, hrun, hended, hW, hsame⟩ := X19.leave (v := none) (fun _ => rfl)
 refine ⟨_, _, c19 _ ?_, hrun, hended, _, _, rfl, ?_, ⟨_, rfl⟩, hW, hsame.mono (by decide) (by decide)⟩
 ·show S_ p e below T19 m 20 #[vr x_, vr y_, vr z_] [] _
  exact X19.returnOut hx Bd.returns (hb hby d12_20) hr
 ·show Q_l12_2 Z x_ y_ z_ h0 n0 _ T19.heap _
  rw [e19]
  exact ⟨rfl, N21, kp23, ((E0_.wr W9).wr W19), f24, f20⟩
theorem d13_0 : decode jdk_44_method_1_code 0 = .ok (.aload_n 0, 1) := by decide +kernel
theorem d13_1 : decode jdk_44_method_1_code 1 = .ok (.invokespecial 1, 3) := by decide +kernel
theorem d13_4 : decode jdk_44_method_1_code 4 = .ok (.aload_n 0, 1) := by decide +kernel
theorem d13_5 : decode jdk_44_method_1_code 5 = .ok (.aload_n 1, 1) := by decide +kernel
theorem d13_6 : decode jdk_44_method_1_code 6 = .ok (.invokestatic 7, 3) := by decide +kernel
theorem d13_9 : decode jdk_44_method_1_code 9 = .ok (.putfield 13, 3) := by decide +kernel
theorem d13_12 : decode jdk_44_method_1_code 12 = .ok (.aload_n 0, 1) := by decide +kernel
theorem d13_13 : decode jdk_44_method_1_code 13 = .ok (.getstatic 19, 3) := by decide +kernel
theorem d13_16 : decode jdk_44_method_1_code 16 = .ok (.putfield 24, 3) := by decide +kernel
theorem d13_19 : decode jdk_44_method_1_code 19 = .ok (.return_, 1) := by decide +kernel
theorem ef_l12_1 (m : MethodId) (x_ : Addr) (y_ : Addr) : entryFrame m #[(rr x_), (rr y_)] 2 = mkF m 0 #[vr x_, vr y_] [] := by first | (simp [entryFrame, mkF, argsToLocals, Value.category]; done) | rfl
def Q_l12_1 (Z : State) (x_ : Addr) (y_ : Addr) (w_ : Addr) (h0 : Heap) (n0 : Nat) (v : Option Value) (h : Heap) (L : List Loc) : Prop := v = none ∧ Fr n0 L ∧ Keep h0 h [x_] ∧ Exa Z h x_ nm0 ∧ Fld Z h x_ nm0 "e0" nm4 (rr y_) ∧ Fld Z h x_ nm0 "e1" nm4 (rr w_)
set_option maxRecDepth 65536 in
set_option maxHeartbeats 40000000 in
theorem rm_l12_1 (l : Launch) (Z : State) (a0 : Array Value) (hw : HW Z a0) (ws : List Jvm.Cond) (x_ : Addr) (y_ : Addr) (w_ : Addr) (h0 : Heap) (n0 : Nat) (O0 : Old Z n0 h0) (E0_ : Exa Z h0 x_ nm0) (F1_ : Fld Z h0 x_ nm0 "e0" nm4 .null) (F2_ : Fld Z h0 x_ nm0 "e1" nm4 .null) (G3_ : n0 ≤ x_) (ZS4_ : Sta Z Z.heap nm9 "EMPTY" nm4 (rr w_)) :
  MFP l Z (⟨nm0, "<init>", "(Ljava/lang/Object;)V"⟩ : MethodName) jdk_44_method_1_code 2 none ({ frames := 4, cells := 0, slots := 0, locals := 48 } : Room) ws #[(rr x_), (rr y_)] h0 (Q_l12_1 Z x_ y_ w_ h0 n0) := by
 refine MetFree.of_bodySF (plainFor_of_name pn_java_util_ImmutableCollections_List12) hisR ?_
 intro p e s m args below meth c s₁ Bd hml0 hP hK
 obtain ⟨rfl, hZ, hh⟩ := hP
 have hx := Bd.exec
 have hby := Bd.bytes
 have hml : c.maxLocals = 2 := hml0
 have hown : s.vm.findClass nm0 = some m.cls := findClass_of_methodNamed Bd.named
 have hnm := (name_of_methodNamed Bd.named Bd.method).1
 have X0 : Stand p l e ({ frames := 4, cells := 0, slots := 0, locals := 48 } : Room) s m #[(rr x_), (rr y_)] below meth c s₁ [] 0 0 := Stand.of_body Bd
 have e0 : s₁.heap = h0 := by rw [← hh, Bd.state]; rfl
 have N0 := Fr.nil n0
 have kp0 : Keep h0 h0 [x_] := Keep.refl _ _
 have c0 : ∀ t, S_ p e below s₁ m 0 #[vr x_, vr y_] [] t → Steps p.tables e below (s₁.setTop (entryFrame m #[(rr x_), (rr y_)] 2)) t := fun t k => castTop (ef_l12_1 m x_ y_) k
 generalize s₁.setTop (entryFrame m #[(rr x_), (rr y_)] 2) = st0 at c0 ⊢
 replace c0 : Kt p e below s₁ st0 (mkF m 0 #[vr x_, vr y_] []) := c0
 have c1 : Kt p e below s₁ st0 (mkF m 1 #[vr x_, vr y_] [(rr x_)]) := fun t k => by
  refine c0 t ?_
  show S_ p e below s₁ m 0 #[vr x_, vr y_] [] t
  refine XS.aloadN X0.here hx rfl (hb hby d13_0) rfl rfl ?_
  exact k
 obtain ⟨_, T2, L2, X2, hQ2, c2⟩ := kspec X0 hx hZ hown (w63 hw) (w64 hw) (w67 hw) (w68 hw) (rm_ail l Z a0 hw [] x_ h0 n0 O0 ) e0 c1 hml pd_prV x_ [] [] 0 (hb hby d13_1) rfl rfl rfl rfl rfl rfl
 obtain ⟨rfl, N3q, K4⟩ := hQ2
 have N3 := Fr.app N0 N3q
 have c5 : Kt p e below T2 st0 (mkF m 6 #[vr x_, vr y_] [(rr y_), (rr x_)]) := fun t k => by
  refine c2 t ?_
  show S_ p e below T2 m 4 #[vr x_, vr y_] [] t
  refine XS.aloadN X2.here hx rfl (hb hby d13_4) rfl rfl ?_
  show S_ p e below T2 m 5 #[vr x_, vr y_] [(rr x_)] t
  refine XS.aloadN X2.here hx rfl (hb hby d13_5) rfl rfl ?_
  exact k
 obtain ⟨_, T6, L6, X6, hQ6, c6⟩ := kstat X2 hx hZ hown (w82 hw) (w83 hw) (w84 hw) (w85 hw) (rm_rnn l Z a0 hw [] y_ h0 n0 O0 ) K4 c5 hml pd_pLjava_lang_Object_rLjava_lang_Object_ [(rr y_)] [(rr x_)] 1 (hb hby d13_6) rfl rfl rfl rfl rfl rfl
 obtain ⟨rfl, N7q, K8⟩ := hQ6
 have N7 := Fr.app N3 N7q
 obtain ⟨T9, h9, X9, e9, W9, f10, o12, N11, c9⟩ := kput X6 hx hZ (.object nm6) hown (host := "") (Or.inl (w86 hw)) Via.refl K8 F1_ E0_ (Or.inr ⟨(w87 hw), rfl, hnm⟩) (w57 hw) c6 rfl rfl (hb hby d13_9) (by decide) rfl rfl O0 N7 G3_
 have kp13 := kp0.wr W9 (Or.inl (List.mem_of_getElem? (i := 0) rfl))
 have c14 : Kt p e below T9 st0 (mkF m 13 #[vr x_, vr y_] [(rr x_)]) := fun t k => by
  refine c9 t ?_
  show S_ p e below T9 m 12 #[vr x_, vr y_] [] t
  refine XS.aloadN X9.here hx rfl (hb hby d13_12) rfl rfl ?_
  exact k
 obtain ⟨T15, X15, e15, c15⟩ := kgetS X9 hx hZ hown (Or.inr (w99 hw)) Via.refl e9 (ZS4_.ext o12.2) c14 rfl (hb hby d13_13)
 have f16 := F2_.other W9 (Or.inr (slot_ne (Or.inr (w89 hw)) (Or.inr (w87 hw)) (by decide) (t := (.object nm6)) (t' := (.object nm6)) (by decide) (by decide)))
 obtain ⟨T17, h17, X17, e17, W17, f18, o20, N19, c17⟩ := kput X15 hx hZ (.object nm6) hown (host := "") (Or.inl (w88 hw)) Via.refl e15 f16 (E0_.wr W9) (Or.inr ⟨(w89 hw), rfl, hnm⟩) (w57 hw) c15 rfl rfl (hb hby d13_16) (by decide) rfl rfl o12 N11 G3_
 have kp21 := kp13.wr W17 (Or.inl (List.mem_of_getElem? (i := 0) rfl))
 have f22 := f10.other W17 (Or.inr (slot_ne (Or.inr (w87 hw)) (Or.inr (w89 hw)) (by decide) (t := (.object nm6)) (t' := (.object nm6)) (by decide) (by decide)))
 obtain ⟨fs, hr, hrun, hended, hW, hsame⟩ := X17.leave (v := none) (fun _ => rfl)
 refine ⟨_, _, c17 _ ?_, hrun, hended, _, _, rfl, ?_, ⟨_, rfl⟩, hW, hsame.mono (by decide) (by decide)⟩
 ·show S_ p e below T17 m 19 #[vr x_, vr y_] [] _
  exact X17.returnOut hx Bd.returns (hb hby d13_19) hr
 ·show Q_l12_1 Z x_ y_ w_ h0 n0 _ T17.heap _
  rw [e17]
  exact ⟨rfl, N19, kp21, ((E0_.wr W9).wr W17), f22, f18⟩
theorem pn_java_util_List : plainName nm7 = true := by first | (simp [plainName, overriddenIn]; done) | decide +kernel
theorem d14_0 : decode jdk_40_method_38_code 0 = .ok (.new 96, 3) := by decide +kernel
theorem d14_3 : decode jdk_40_method_38_code 3 = .ok (.dup, 1) := by decide +kernel
theorem d14_4 : decode jdk_40_method_38_code 4 = .ok (.aload_n 0, 1) := by decide +kernel
theorem d14_5 : decode jdk_40_method_38_code 5 = .ok (.aload_n 1, 1) := by decide +kernel
theorem d14_6 : decode jdk_40_method_38_code 6 = .ok (.invokespecial 100, 3) := by decide +kernel
theorem pd_pLjava_lang_Object_Ljava_lang_Object_rV : parseMethodDescriptor "(Ljava/lang/Object;Ljava/lang/Object;)V" = some ⟨[(.object nm6), (.object nm6)], none⟩ := by decide +kernel
theorem d14_9 : decode jdk_40_method_38_code 9 = .ok (.areturn, 1) := by decide +kernel
theorem ef_of2 (m : MethodId) (y_ : Addr) (z_ : Addr) : entryFrame m #[(rr y_), (rr z_)] 2 = mkF m 0 #[vr y_, vr z_] [] := by first | (simp [entryFrame, mkF, argsToLocals, Value.category]; done) | rfl
def Q_of2 (Z : State) (y_ : Addr) (z_ : Addr) (h0 : Heap) (n0 : Nat) (v : Option Value) (h : Heap) (L : List Loc) : Prop := ∃ (b_ : Addr), v = some (rr b_) ∧ Fr n0 L ∧ Keep h0 h [] ∧ Exa Z h b_ nm0 ∧ Fld Z h b_ nm0 "e0" nm4 (rr y_) ∧ Fld Z h b_ nm0 "e1" nm4 (rr z_) ∧ n0 ≤ b_ ∧ h0.size ≤ b_
set_option maxRecDepth 65536 in
set_option maxHeartbeats 40000000 in
theorem rm_of2 (l : Launch) (Z : State) (a0 : Array Value) (hw : HW Z a0) (ws : List Jvm.Cond) (y_ : Addr) (z_ : Addr) (h0 : Heap) (n0 : Nat) (O0 : Old Z n0 h0) :
  MFP l Z (⟨nm7, "of", "(Ljava/lang/Object;Ljava/lang/Object;)Ljava/util/List;"⟩ : MethodName) jdk_40_method_38_code 2 (some (.object nm7)) ({ frames := 5, cells := 1, slots := 2, locals := 63 } : Room) ws #[(rr y_), (rr z_)] h0 (Q_of2 Z y_ z_ h0 n0) := by
 refine MetFree.of_bodySF (plainFor_of_name pn_java_util_List) hisR ?_
 intro p e s m args below meth c s₁ Bd hml0 hP hK
 obtain ⟨rfl, hZ, hh⟩ := hP
 have hx := Bd.exec
 have hby := Bd.bytes
 have hml : c.maxLocals = 2 := hml0
 have hown : s.vm.findClass nm7 = some m.cls := findClass_of_methodNamed Bd.named
 have hnm := (name_of_methodNamed Bd.named Bd.method).1
 have X0 : Stand p l e ({ frames := 5, cells := 1, slots := 2, locals := 63 } : Room) s m #[(rr y_), (rr z_)] below meth c s₁ [] 0 0 := Stand.of_body Bd
 have e0 : s₁.heap = h0 := by rw [← hh, Bd.state]; rfl
 have N0 := Fr.nil n0
 have kp0 : Keep h0 h0 [] := Keep.refl _ _
 have c0 : ∀ t, S_ p e below s₁ m 0 #[vr y_, vr z_] [] t → Steps p.tables e below (s₁.setTop (entryFrame m #[(rr y_), (rr z_)] 2)) t := fun t k => castTop (ef_of2 m y_ z_) k
 generalize s₁.setTop (entryFrame m #[(rr y_), (rr z_)] 2) = st0 at c0 ⊢
 replace c0 : Kt p e below s₁ st0 (mkF m 0 #[vr y_, vr z_] []) := c0
 obtain ⟨b1, T1, h1, z1, g1, X1, e1, E1, o2, A1, D1, U1, c1⟩ := knew X0 hx hZ hown (w56 hw) (w57 hw) (w58 hw) e0 c0 rfl (hb hby d14_0) (by decide) (by decide) O0
 have kp3 := kp0.ext E1
 have z4 := Nat.le_trans kp0.1 z1
 have c5 : Kt p e below T1 st0 (mkF m 6 #[vr y_, vr z_] [(rr z_), (rr y_), (rr b1), (rr b1)]) := fun t k => by
  refine c1 t ?_
  show S_ p e below T1 m 3 #[vr y_, vr z_] [(rr b1)] t
  refine XS.dup X1.here hx rfl (hb hby d14_3) rfl rfl ?_
  show S_ p e below T1 m 4 #[vr y_, vr z_] [(rr b1), (rr b1)] t
  refine XS.aloadN X1.here hx rfl (hb hby d14_4) rfl rfl ?_
  show S_ p e below T1 m 5 #[vr y_, vr z_] [(rr y_), (rr b1), (rr b1)] t
  refine XS.aloadN X1.here hx rfl (hb hby d14_5) rfl rfl ?_
  exact k
 obtain ⟨_, T6, L6, X6, hQ6, c6⟩ := kspec X1 hx hZ hown (w59 hw) (w60 hw) (w58 hw) (w62 hw) (rm_l12_2 l Z a0 hw [] b1 y_ z_ h1 n0 o2 A1 (show Fld Z h1 b1 nm0 "e0" nm4 .null from D1 (Or.inr (w87 hw)) (ty := (.object nm6)) (by decide)) (show Fld Z h1 b1 nm0 "e1" nm4 .null from D1 (Or.inr (w89 hw)) (ty := (.object nm6)) (by decide)) g1) e1 c5 hml pd_pLjava_lang_Object_Ljava_lang_Object_rV b1 [(rr y_), (rr z_)] [(rr b1)] 1 (hb hby d14_6) rfl rfl rfl rfl rfl rfl
 obtain ⟨rfl, N7q, K8, p9, p10, p11⟩ := hQ6
 have N7 := Fr.app N0 N7q
 have o12 := o2.keep K8 (allS g1 all0)
 have kp13 := kp3.trans K8 (allS (Or.inr z4) all0)
 obtain ⟨fs, hr, hrun, hended, hW, hsame⟩ := X6.leave (v := some (rr b1)) (fun h => by rw [Bd.returns] at h; cases h)
 refine ⟨_, _, c6 _ ?_, hrun, hended, _, _, rfl, ?_, ⟨_, rfl⟩, hW, hsame.mono (by decide) (by decide)⟩
 ·show S_ p e below T6 m 9 #[vr y_, vr z_] [(rr b1)] _
  exact retOut X6 hx Bd.returns rfl (Or.inr (Or.inr (Or.inr (Or.inr ⟨rfl, rfl, rfl⟩)))) (hb hby d14_9) hr
 ·show Q_of2 Z y_ z_ h0 n0 _ T6.heap _
  exact ⟨b1, rfl, N7, kp13, p9, p10, p11, g1, z4⟩
theorem d15_0 : decode jdk_40_method_37_code 0 = .ok (.new 96, 3) := by decide +kernel
theorem d15_3 : decode jdk_40_method_37_code 3 = .ok (.dup, 1) := by decide +kernel
theorem d15_4 : decode jdk_40_method_37_code 4 = .ok (.aload_n 0, 1) := by decide +kernel
theorem d15_5 : decode jdk_40_method_37_code 5 = .ok (.invokespecial 98, 3) := by decide +kernel
theorem pd_pLjava_lang_Object_rV : parseMethodDescriptor "(Ljava/lang/Object;)V" = some ⟨[(.object nm6)], none⟩ := by decide +kernel
theorem d15_8 : decode jdk_40_method_37_code 8 = .ok (.areturn, 1) := by decide +kernel
theorem ef_of1 (m : MethodId) (y_ : Addr) : entryFrame m #[(rr y_)] 1 = mkF m 0 #[vr y_] [] := by first | (simp [entryFrame, mkF, argsToLocals, Value.category]; done) | rfl
def Q_of1 (Z : State) (y_ : Addr) (w_ : Addr) (h0 : Heap) (n0 : Nat) (v : Option Value) (h : Heap) (L : List Loc) : Prop := ∃ (b_ : Addr), v = some (rr b_) ∧ Fr n0 L ∧ Keep h0 h [] ∧ Exa Z h b_ nm0 ∧ Fld Z h b_ nm0 "e0" nm4 (rr y_) ∧ Fld Z h b_ nm0 "e1" nm4 (rr w_) ∧ n0 ≤ b_ ∧ h0.size ≤ b_
set_option maxRecDepth 65536 in
set_option maxHeartbeats 40000000 in
theorem rm_of1 (l : Launch) (Z : State) (a0 : Array Value) (hw : HW Z a0) (ws : List Jvm.Cond) (y_ : Addr) (w_ : Addr) (h0 : Heap) (n0 : Nat) (O0 : Old Z n0 h0) (ZS0_ : Sta Z Z.heap nm9 "EMPTY" nm4 (rr w_)) :
  MFP l Z (⟨nm7, "of", "(Ljava/lang/Object;)Ljava/util/List;"⟩ : MethodName) jdk_40_method_37_code 1 (some (.object nm7)) ({ frames := 5, cells := 1, slots := 2, locals := 62 } : Room) ws #[(rr y_)] h0 (Q_of1 Z y_ w_ h0 n0) := by
 refine MetFree.of_bodySF (plainFor_of_name pn_java_util_List) hisR ?_
 intro p e s m args below meth c s₁ Bd hml0 hP hK
 obtain ⟨rfl, hZ, hh⟩ := hP
 have hx := Bd.exec
 have hby := Bd.bytes
 have hml : c.maxLocals = 1 := hml0
 have hown : s.vm.findClass nm7 = some m.cls := findClass_of_methodNamed Bd.named
 have hnm := (name_of_methodNamed Bd.named Bd.method).1
 have X0 : Stand p l e ({ frames := 5, cells := 1, slots := 2, locals := 62 } : Room) s m #[(rr y_)] below meth c s₁ [] 0 0 := Stand.of_body Bd
 have e0 : s₁.heap = h0 := by rw [← hh, Bd.state]; rfl
 have N0 := Fr.nil n0
 have kp0 : Keep h0 h0 [] := Keep.refl _ _
 have c0 : ∀ t, S_ p e below s₁ m 0 #[vr y_] [] t → Steps p.tables e below (s₁.setTop (entryFrame m #[(rr y_)] 1)) t := fun t k => castTop (ef_of1 m y_) k
 generalize s₁.setTop (entryFrame m #[(rr y_)] 1) = st0 at c0 ⊢
 replace c0 : Kt p e below s₁ st0 (mkF m 0 #[vr y_] []) := c0
 obtain ⟨b1, T1, h1, z1, g1, X1, e1, E1, o2, A1, D1, U1, c1⟩ := knew X0 hx hZ hown (w56 hw) (w57 hw) (w58 hw) e0 c0 rfl (hb hby d15_0) (by decide) (by decide) O0
 have kp3 := kp0.ext E1
 have z4 := Nat.le_trans kp0.1 z1
 have c5 : Kt p e below T1 st0 (mkF m 5 #[vr y_] [(rr y_), (rr b1), (rr b1)]) := fun t k => by
  refine c1 t ?_
  show S_ p e below T1 m 3 #[vr y_] [(rr b1)] t
  refine XS.dup X1.here hx rfl (hb hby d15_3) rfl rfl ?_
  show S_ p e below T1 m 4 #[vr y_] [(rr b1), (rr b1)] t
  refine XS.aloadN X1.here hx rfl (hb hby d15_4) rfl rfl ?_
  exact k
 obtain ⟨_, T6, L6, X6, hQ6, c6⟩ := kspec X1 hx hZ hown (w138 hw) (w139 hw) (w58 hw) (w140 hw) (rm_l12_1 l Z a0 hw [] b1 y_ w_ h1 n0 o2 A1 (show Fld Z h1 b1 nm0 "e0" nm4 .null from D1 (Or.inr (w87 hw)) (ty := (.object nm6)) (by decide)) (show Fld Z h1 b1 nm0 "e1" nm4 .null from D1 (Or.inr (w89 hw)) (ty := (.object nm6)) (by decide)) g1 ZS0_) e1 c5 hml pd_pLjava_lang_Object_rV b1 [(rr y_)] [(rr b1)] 1 (hb hby d15_5) rfl rfl rfl rfl rfl rfl
 obtain ⟨rfl, N7q, K8, p9, p10, p11⟩ := hQ6
 have N7 := Fr.app N0 N7q
 have o12 := o2.keep K8 (allS g1 all0)
 have kp13 := kp3.trans K8 (allS (Or.inr z4) all0)
 obtain ⟨fs, hr, hrun, hended, hW, hsame⟩ := X6.leave (v := some (rr b1)) (fun h => by rw [Bd.returns] at h; cases h)
 refine ⟨_, _, c6 _ ?_, hrun, hended, _, _, rfl, ?_, ⟨_, rfl⟩, hW, hsame.mono (by decide) (by decide)⟩
 ·show S_ p e below T6 m 8 #[vr y_] [(rr b1)] _
  exact retOut X6 hx Bd.returns rfl (Or.inr (Or.inr (Or.inr (Or.inr ⟨rfl, rfl, rfl⟩)))) (hb hby d15_8) hr
 ·show Q_of1 Z y_ w_ h0 n0 _ T6.heap _
  exact ⟨b1, rfl, N7, kp13, p9, p10, p11, g1, z4⟩
theorem d16_0 : decode prog_6_method_4_code 0 = .ok (.aload_n 0, 1) := by decide +kernel
theorem d16_1 : decode prog_6_method_4_code 1 = .ok (.invokevirtual 25, 3) := by decide +kernel
theorem pd_prZ : parseMethodDescriptor "()Z" = some ⟨[], some .boolean⟩ := by decide +kernel
theorem d16_4 : decode prog_6_method_4_code 4 = .ok (.ifCond .eq 12, 3) := by decide +kernel
theorem d16_7 : decode prog_6_method_4_code 7 = .ok (.getstatic 29, 3) := by decide +kernel
theorem d16_10 : decode prog_6_method_4_code 10 = .ok (.invokestatic 33, 3) := by decide +kernel
theorem pd_pLjava_lang_Object_rLjava_util_List_ : parseMethodDescriptor "(Ljava/lang/Object;)Ljava/util/List;" = some ⟨[(.object nm6)], some (.object nm7)⟩ := by decide +kernel
theorem d16_13 : decode prog_6_method_4_code 13 = .ok (.goto 10, 3) := by decide +kernel
theorem d16_23 : decode prog_6_method_4_code 23 = .ok (.areturn, 1) := by decide +kernel
theorem ef_grantT (m : MethodId) (x_ : Addr) : entryFrame m #[(rr x_)] 1 = mkF m 0 #[vr x_] [] := by first | (simp [entryFrame, mkF, argsToLocals, Value.category]; done) | rfl
def Q_grantT (Z : State) (x_ : Addr) (w_ : Addr) (cm_ : Addr) (h0 : Heap) (n0 : Nat) (v : Option Value) (h : Heap) (L : List Loc) : Prop := ∃ (b_ : Addr), v = some (rr b_) ∧ Fr n0 L ∧ Keep h0 h [] ∧ Exa Z h b_ nm0 ∧ Fld Z h b_ nm0 "e0" nm4 (rr cm_) ∧ Fld Z h b_ nm0 "e1" nm4 (rr w_) ∧ n0 ≤ b_ ∧ h0.size ≤ b_
set_option maxRecDepth 65536 in
set_option maxHeartbeats 40000000 in
theorem rm_grantT (l : Launch) (Z : State) (a0 : Array Value) (hw : HW Z a0) (ws : List Jvm.Cond) (x_ : Addr) (w_ : Addr) (cm_ : Addr) (h0 : Heap) (n0 : Nat) (O0 : Old Z n0 h0) (E0_ : Exa Z h0 x_ nm2) (F1_ : Fld Z h0 x_ nm2 "container" "Ljava/lang/String;" .null) (ZS2_ : Sta Z Z.heap nm9 "EMPTY" nm4 (rr w_)) (ZS3_ : Sta Z Z.heap nm2 "COMMON" "Lportcullis/catalog/Scope;" (rr cm_)) :
  MFP l Z (⟨nm2, "grantScopes", "()Ljava/util/List;"⟩ : MethodName) prog_6_method_4_code 1 (some (.object nm7)) ({ frames := 6, cells := 1, slots := 2, locals := 74 } : Room) ws #[(rr x_)] h0 (Q_grantT Z x_ w_ cm_ h0 n0) := by
 refine MetFree.of_bodySF (plainFor_of_name pn_portcullis_catalog_Scope) hisR ?_
 intro p e s m args below meth c s₁ Bd hml0 hP hK
 obtain ⟨rfl, hZ, hh⟩ := hP
 have hx := Bd.exec
 have hby := Bd.bytes
 have hml : c.maxLocals = 1 := hml0
 have hown : s.vm.findClass nm2 = some m.cls := findClass_of_methodNamed Bd.named
 have hnm := (name_of_methodNamed Bd.named Bd.method).1
 have X0 : Stand p l e ({ frames := 6, cells := 1, slots := 2, locals := 74 } : Room) s m #[(rr x_)] below meth c s₁ [] 0 0 := Stand.of_body Bd
 have e0 : s₁.heap = h0 := by rw [← hh, Bd.state]; rfl
 have N0 := Fr.nil n0
 have kp0 : Keep h0 h0 [] := Keep.refl _ _
 have c0 : ∀ t, S_ p e below s₁ m 0 #[vr x_] [] t → Steps p.tables e below (s₁.setTop (entryFrame m #[(rr x_)] 1)) t := fun t k => castTop (ef_grantT m x_) k
 generalize s₁.setTop (entryFrame m #[(rr x_)] 1) = st0 at c0 ⊢
 replace c0 : Kt p e below s₁ st0 (mkF m 0 #[vr x_] []) := c0
 have c1 : Kt p e below s₁ st0 (mkF m 1 #[vr x_] [(rr x_)]) := fun t k => by
  refine c0 t ?_
  show S_ p e below s₁ m 0 #[vr x_] [] t
  refine XS.aloadN X0.here hx rfl (hb hby d16_0) rfl rfl ?_
  exact k
 obtain ⟨_, T2, L2, X2, hQ2, c2⟩ := kvirt X0 hx hZ hown (w45 hw) (w46 hw) (w48 hw) (w47 hw) (w49 hw) (w28 hw) (rm_comT l Z a0 hw [] x_ h0 n0 O0 F1_) e0 E0_ c1 hml pd_prZ [] [] 0 (hb hby d16_1) rfl rfl rfl rfl rfl rfl
 obtain ⟨rfl, N3q, K4⟩ := hQ2
 have N3 := Fr.app N0 N3q
 have c5 : Kt p e below T2 st0 (mkF m 7 #[vr x_] []) := fun t k => by
  refine c2 t ?_
  show S_ p e below T2 m 4 #[vr x_] [(ii 1)] t
  refine XS.ifNo X2.here hx rfl (hb hby d16_4) rfl rfl ?_
  exact k
 obtain ⟨T6, X6, e6, c6⟩ := kgetS X2 hx hZ hown (host := "") (Or.inl (w50 hw)) Via.refl K4 (ZS3_.ext O0.2) c5 rfl (hb hby d16_7)
 obtain ⟨_, T7, L7, X7, hQ7, c7⟩ := kstat X6 hx hZ hown (w135 hw) (w136 hw) (w54 hw) (w137 hw) (rm_of1 l Z a0 hw [] cm_ w_ h0 n0 O0 ZS2_) e6 c6 hml pd_pLjava_lang_Object_rLjava_util_List_ [(rr cm_)] [] 0 (hb hby d16_10) rfl rfl rfl rfl rfl rfl
 obtain ⟨b8, rfl, N9q, K10, p11, p12, p13, p14, p15⟩ := hQ7
 have N9 := Fr.app N3 N9q
 have o16 := O0.keep K10 all0
 have kp17 := kp0.trans K10 all0
 have z18 := Nat.le_trans kp0.1 p15
 have g19 := Nat.le_trans (Nat.le_trans (Nat.le_of_eq O0.1.symm) O0.2.1) p15
 obtain ⟨fs, hr, hrun, hended, hW, hsame⟩ := X7.leave (v := some (rr b8)) (fun h => by rw [Bd.returns] at h; cases h)
 refine ⟨_, _, c7 _ ?_, hrun, hended, _, _, rfl, ?_, ⟨_, rfl⟩, hW, hsame.mono (by decide) (by decide)⟩
 ·show S_ p e below T7 m 13 #[vr x_] [(rr b8)] _
  refine yG X7.here hx rfl 13 23 rfl (hb hby d16_13) ?_
  show S_ p e below T7 m 23 #[vr x_] [(rr b8)] _
  exact retOut X7 hx Bd.returns rfl (Or.inr (Or.inr (Or.inr (Or.inr ⟨rfl, rfl, rfl⟩)))) (hb hby d16_23) hr
 ·show Q_grantT Z x_ w_ cm_ h0 n0 _ T7.heap _
  exact ⟨b8, rfl, N9, kp17, p11, p12, p13, g19, z18⟩
theorem d16_16 : decode prog_6_method_4_code 16 = .ok (.getstatic 29, 3) := by decide +kernel
theorem d16_19 : decode prog_6_method_4_code 19 = .ok (.aload_n 0, 1) := by decide +kernel
theorem d16_20 : decode prog_6_method_4_code 20 = .ok (.invokestatic 39, 3) := by decide +kernel
theorem pd_pLjava_lang_Object_Ljava_lang_Object_rLjava_util_List_ : parseMethodDescriptor "(Ljava/lang/Object;Ljava/lang/Object;)Ljava/util/List;" = some ⟨[(.object nm6), (.object nm6)], some (.object nm7)⟩ := by decide +kernel
theorem ef_grantF (m : MethodId) (x_ : Addr) : entryFrame m #[(rr x_)] 1 = mkF m 0 #[vr x_] [] := by first | (simp [entryFrame, mkF, argsToLocals, Value.category]; done) | rfl
def Q_grantF (Z : State) (x_ : Addr) (y_ : Addr) (cm_ : Addr) (h0 : Heap) (n0 : Nat) (v : Option Value) (h : Heap) (L : List Loc) : Prop := ∃ (b_ : Addr), v = some (rr b_) ∧ Fr n0 L ∧ Keep h0 h [] ∧ Exa Z h b_ nm0 ∧ Fld Z h b_ nm0 "e0" nm4 (rr cm_) ∧ Fld Z h b_ nm0 "e1" nm4 (rr x_) ∧ n0 ≤ b_ ∧ h0.size ≤ b_
set_option maxRecDepth 65536 in
set_option maxHeartbeats 40000000 in
theorem rm_grantF (l : Launch) (Z : State) (a0 : Array Value) (hw : HW Z a0) (ws : List Jvm.Cond) (x_ : Addr) (y_ : Addr) (cm_ : Addr) (h0 : Heap) (n0 : Nat) (O0 : Old Z n0 h0) (E0_ : Exa Z h0 x_ nm2) (F1_ : Fld Z h0 x_ nm2 "container" "Ljava/lang/String;" (rr y_)) (ZS2_ : Sta Z Z.heap nm2 "COMMON" "Lportcullis/catalog/Scope;" (rr cm_)) :
  MFP l Z (⟨nm2, "grantScopes", "()Ljava/util/List;"⟩ : MethodName) prog_6_method_4_code 1 (some (.object nm7)) ({ frames := 6, cells := 1, slots := 2, locals := 76 } : Room) ws #[(rr x_)] h0 (Q_grantF Z x_ y_ cm_ h0 n0) := by
 refine MetFree.of_bodySF (plainFor_of_name pn_portcullis_catalog_Scope) hisR ?_
 intro p e s m args below meth c s₁ Bd hml0 hP hK
 obtain ⟨rfl, hZ, hh⟩ := hP
 have hx := Bd.exec
 have hby := Bd.bytes
 have hml : c.maxLocals = 1 := hml0
 have hown : s.vm.findClass nm2 = some m.cls := findClass_of_methodNamed Bd.named
 have hnm := (name_of_methodNamed Bd.named Bd.method).1
 have X0 : Stand p l e ({ frames := 6, cells := 1, slots := 2, locals := 76 } : Room) s m #[(rr x_)] below meth c s₁ [] 0 0 := Stand.of_body Bd
 have e0 : s₁.heap = h0 := by rw [← hh, Bd.state]; rfl
 have N0 := Fr.nil n0
 have kp0 : Keep h0 h0 [] := Keep.refl _ _
 have c0 : ∀ t, S_ p e below s₁ m 0 #[vr x_] [] t → Steps p.tables e below (s₁.setTop (entryFrame m #[(rr x_)] 1)) t := fun t k => castTop (ef_grantF m x_) k
 generalize s₁.setTop (entryFrame m #[(rr x_)] 1) = st0 at c0 ⊢
 replace c0 : Kt p e below s₁ st0 (mkF m 0 #[vr x_] []) := c0
 have c1 : Kt p e below s₁ st0 (mkF m 1 #[vr x_] [(rr x_)]) := fun t k => by
  refine c0 t ?_
  show S_ p e below s₁ m 0 #[vr x_] [] t
  refine XS.aloadN X0.here hx rfl (hb hby d16_0) rfl rfl ?_
  exact k
 obtain ⟨_, T2, L2, X2, hQ2, c2⟩ := kvirt X0 hx hZ hown (w45 hw) (w46 hw) (w48 hw) (w47 hw) (w49 hw) (w28 hw) (rm_comF l Z a0 hw [] x_ y_ h0 n0 O0 F1_) e0 E0_ c1 hml pd_prZ [] [] 0 (hb hby d16_1) rfl rfl rfl rfl rfl rfl
 obtain ⟨rfl, N3q, K4⟩ := hQ2
 have N3 := Fr.app N0 N3q
 have c5 : Kt p e below T2 st0 (mkF m 16 #[vr x_] []) := fun t k => by
  refine c2 t ?_
  show S_ p e below T2 m 4 #[vr x_] [(ii 0)] t
  refine yI X2.here hx rfl 4 16 rfl (hb hby d16_4) rfl rfl ?_
  exact k
 obtain ⟨T6, X6, e6, c6⟩ := kgetS X2 hx hZ hown (host := "") (Or.inl (w50 hw)) Via.refl K4 (ZS2_.ext O0.2) c5 rfl (hb hby d16_16)
 have c7 : Kt p e below T6 st0 (mkF m 20 #[vr x_] [(rr x_), (rr cm_)]) := fun t k => by
  refine c6 t ?_
  show S_ p e below T6 m 19 #[vr x_] [(rr cm_)] t
  refine XS.aloadN X6.here hx rfl (hb hby d16_19) rfl rfl ?_
  exact k
 obtain ⟨_, T8, L8, X8, hQ8, c8⟩ := kstat X6 hx hZ hown (w52 hw) (w53 hw) (w54 hw) (w55 hw) (rm_of2 l Z a0 hw [] cm_ x_ h0 n0 O0 ) e6 c7 hml pd_pLjava_lang_Object_Ljava_lang_Object_rLjava_util_List_ [(rr cm_), (rr x_)] [] 0 (hb hby d16_20) rfl rfl rfl rfl rfl rfl
 obtain ⟨b9, rfl, N10q, K11, p12, p13, p14, p15, p16⟩ := hQ8
 have N10 := Fr.app N3 N10q
 have o17 := O0.keep K11 all0
 have kp18 := kp0.trans K11 all0
 have z19 := Nat.le_trans kp0.1 p16
 have g20 := Nat.le_trans (Nat.le_trans (Nat.le_of_eq O0.1.symm) O0.2.1) p16
 obtain ⟨fs, hr, hrun, hended, hW, hsame⟩ := X8.leave (v := some (rr b9)) (fun h => by rw [Bd.returns] at h; cases h)
 refine ⟨_, _, c8 _ ?_, hrun, hended, _, _, rfl, ?_, ⟨_, rfl⟩, hW, hsame.mono (by decide) (by decide)⟩
 ·show S_ p e below T8 m 23 #[vr x_] [(rr b9)] _
  exact retOut X8 hx Bd.returns rfl (Or.inr (Or.inr (Or.inr (Or.inr ⟨rfl, rfl, rfl⟩)))) (hb hby d16_23) hr
 ·show Q_grantF Z x_ y_ cm_ h0 n0 _ T8.heap _
  exact ⟨b9, rfl, N10, kp18, p12, p13, p14, g20, z19⟩
theorem d17_0 : decode jdk_44_method_3_code 0 = .ok (.aload_n 0, 1) := by decide +kernel
theorem d17_1 : decode jdk_44_method_3_code 1 = .ok (.getfield 24, 3) := by decide +kernel
theorem d17_4 : decode jdk_44_method_3_code 4 = .ok (.getstatic 19, 3) := by decide +kernel
theorem d17_7 : decode jdk_44_method_3_code 7 = .ok (.if_acmp .eq 7, 3) := by decide +kernel
theorem d17_14 : decode jdk_44_method_3_code 14 = .ok (.iconst 1, 1) := by decide +kernel
theorem d17_15 : decode jdk_44_method_3_code 15 = .ok (.ireturn, 1) := by decide +kernel
theorem ef_size1 (m : MethodId) (x_ : Addr) : entryFrame m #[(rr x_)] 1 = mkF m 0 #[vr x_] [] := by first | (simp [entryFrame, mkF, argsToLocals, Value.category]; done) | rfl
def Q_size1 (Z : State) (x_ : Addr) (w_ : Addr) (h0 : Heap) (n0 : Nat) (v : Option Value) (h : Heap) (L : List Loc) : Prop := v = some (ii 1) ∧ Fr n0 L ∧ h = h0
set_option maxRecDepth 65536 in
set_option maxHeartbeats 40000000 in
theorem rm_size1 (l : Launch) (Z : State) (a0 : Array Value) (hw : HW Z a0) (ws : List Jvm.Cond) (x_ : Addr) (w_ : Addr) (h0 : Heap) (n0 : Nat) (O0 : Old Z n0 h0) (F0_ : Fld Z h0 x_ nm0 "e1" nm4 (rr w_)) (ZS1_ : Sta Z Z.heap nm9 "EMPTY" nm4 (rr w_)) :
  MFP l Z (⟨nm0, "size", "()I"⟩ : MethodName) jdk_44_method_3_code 1 (some .int) ({ frames := 0, cells := 0, slots := 0, locals := 0 } : Room) ws #[(rr x_)] h0 (Q_size1 Z x_ w_ h0 n0) := by
 refine MetFree.of_bodySF (plainFor_of_name pn_java_util_ImmutableCollections_List12) hisR ?_
 intro p e s m args below meth c s₁ Bd hml0 hP hK
 obtain ⟨rfl, hZ, hh⟩ := hP
 have hx := Bd.exec
 have hby := Bd.bytes
 have hml : c.maxLocals = 1 := hml0
 have hown : s.vm.findClass nm0 = some m.cls := findClass_of_methodNamed Bd.named
 have hnm := (name_of_methodNamed Bd.named Bd.method).1
 have X0 : Stand p l e ({ frames := 0, cells := 0, slots := 0, locals := 0 } : Room) s m #[(rr x_)] below meth c s₁ [] 0 0 := Stand.of_body Bd
 have e0 : s₁.heap = h0 := by rw [← hh, Bd.state]; rfl
 have N0 := Fr.nil n0
 have kp0 : Keep h0 h0 [] := Keep.refl _ _
 have c0 : ∀ t, S_ p e below s₁ m 0 #[vr x_] [] t → Steps p.tables e below (s₁.setTop (entryFrame m #[(rr x_)] 1)) t := fun t k => castTop (ef_size1 m x_) k
 generalize s₁.setTop (entryFrame m #[(rr x_)] 1) = st0 at c0 ⊢
 replace c0 : Kt p e below s₁ st0 (mkF m 0 #[vr x_] []) := c0
 have c1 : Kt p e below s₁ st0 (mkF m 1 #[vr x_] [(rr x_)]) := fun t k => by
  refine c0 t ?_
  show S_ p e below s₁ m 0 #[vr x_] [] t
  refine XS.aloadN X0.here hx rfl (hb hby d17_0) rfl rfl ?_
  exact k
 obtain ⟨T2, X2, e2, c2⟩ := kget X0 hx hZ hown (host := "") (Or.inl (w88 hw)) Via.refl e0 F0_ c1 rfl rfl (hb hby d17_1)
 obtain ⟨T3, X3, e3, c3⟩ := kgetS X2 hx hZ hown (Or.inr (w99 hw)) Via.refl e2 (ZS1_.ext O0.2) c2 rfl (hb hby d17_4)
 obtain ⟨fs, hr, hrun, hended, hW, hsame⟩ := X3.leave (v := some (ii 1)) (fun h => by rw [Bd.returns] at h; cases h)
 refine ⟨_, _, c3 _ ?_, hrun, hended, _, _, rfl, ?_, ⟨_, rfl⟩, hW, hsame.mono (by decide) (by decide)⟩
 ·show S_ p e below T3 m 7 #[vr x_] [(rr w_), (rr w_)] _
  refine Jvm.RoadKit.acmp (g := (mkF m 7 #[vr x_] [(rr w_), (rr w_)])) X3 hx rfl rfl rfl (pc0 := 7) (pc' := 14) (same := true) rfl (hb hby d17_7) rfl (decide_eq_true rfl) (by decide) (by decide) ?_
  show S_ p e below T3 m 14 #[vr x_] [] _
  refine XS.iconst X3.here hx rfl (hb hby d17_14) ?_
  show S_ p e below T3 m 15 #[vr x_] [(ii 1)] _
  exact retOut X3 hx Bd.returns rfl (Or.inl ⟨rfl, Or.inl rfl, _, rfl⟩) (hb hby d17_15) hr
 ·show Q_size1 Z x_ w_ h0 n0 _ T3.heap _
  rw [e3]
  exact ⟨rfl, N0, rfl⟩
theorem d17_10 : decode jdk_44_method_3_code 10 = .ok (.iconst 2, 1) := by decide +kernel
theorem d17_11 : decode jdk_44_method_3_code 11 = .ok (.goto 4, 3) := by decide +kernel
theorem ef_size2 (m : MethodId) (x_ : Addr) : entryFrame m #[(rr x_)] 1 = mkF m 0 #[vr x_] [] := by first | (simp [entryFrame, mkF, argsToLocals, Value.category]; done) | rfl
def Q_size2 (Z : State) (x_ : Addr) (w_ : Addr) (y_ : Addr) (h0 : Heap) (n0 : Nat) (v : Option Value) (h : Heap) (L : List Loc) : Prop := v = some (ii 2) ∧ Fr n0 L ∧ h = h0
set_option maxRecDepth 65536 in
set_option maxHeartbeats 40000000 in
theorem rm_size2 (l : Launch) (Z : State) (a0 : Array Value) (hw : HW Z a0) (ws : List Jvm.Cond) (x_ : Addr) (w_ : Addr) (y_ : Addr) (h0 : Heap) (n0 : Nat) (O0 : Old Z n0 h0) (F0_ : Fld Z h0 x_ nm0 "e1" nm4 (rr y_)) (ZS1_ : Sta Z Z.heap nm9 "EMPTY" nm4 (rr w_)) (NE2_ : y_ ≠ w_) :
  MFP l Z (⟨nm0, "size", "()I"⟩ : MethodName) jdk_44_method_3_code 1 (some .int) ({ frames := 0, cells := 0, slots := 0, locals := 0 } : Room) ws #[(rr x_)] h0 (Q_size2 Z x_ w_ y_ h0 n0) := by
 refine MetFree.of_bodySF (plainFor_of_name pn_java_util_ImmutableCollections_List12) hisR ?_
 intro p e s m args below meth c s₁ Bd hml0 hP hK
 obtain ⟨rfl, hZ, hh⟩ := hP
 have hx := Bd.exec
 have hby := Bd.bytes
 have hml : c.maxLocals = 1 := hml0
 have hown : s.vm.findClass nm0 = some m.cls := findClass_of_methodNamed Bd.named
 have hnm := (name_of_methodNamed Bd.named Bd.method).1
 have X0 : Stand p l e ({ frames := 0, cells := 0, slots := 0, locals := 0 } : Room) s m #[(rr x_)] below meth c s₁ [] 0 0 := Stand.of_body Bd
 have e0 : s₁.heap = h0 := by rw [← hh, Bd.state]; rfl
 have N0 := Fr.nil n0
 have kp0 : Keep h0 h0 [] := Keep.refl _ _
 have c0 : ∀ t, S_ p e below s₁ m 0 #[vr x_] [] t → Steps p.tables e below (s₁.setTop (entryFrame m #[(rr x_)] 1)) t := fun t k => castTop (ef_size2 m x_) k
 generalize s₁.setTop (entryFrame m #[(rr x_)] 1) = st0 at c0 ⊢
 replace c0 : Kt p e below s₁ st0 (mkF m 0 #[vr x_] []) := c0
 have c1 : Kt p e below s₁ st0 (mkF m 1 #[vr x_] [(rr x_)]) := fun t k => by
  refine c0 t ?_
  show S_ p e below s₁ m 0 #[vr x_] [] t
  refine XS.aloadN X0.here hx rfl (hb hby d17_0) rfl rfl ?_
  exact k
 obtain ⟨T2, X2, e2, c2⟩ := kget X0 hx hZ hown (host := "") (Or.inl (w88 hw)) Via.refl e0 F0_ c1 rfl rfl (hb hby d17_1)
 obtain ⟨T3, X3, e3, c3⟩ := kgetS X2 hx hZ hown (Or.inr (w99 hw)) Via.refl e2 (ZS1_.ext O0.2) c2 rfl (hb hby d17_4)
 obtain ⟨fs, hr, hrun, hended, hW, hsame⟩ := X3.leave (v := some (ii 2)) (fun h => by rw [Bd.returns] at h; cases h)
 refine ⟨_, _, c3 _ ?_, hrun, hended, _, _, rfl, ?_, ⟨_, rfl⟩, hW, hsame.mono (by decide) (by decide)⟩
 ·show S_ p e below T3 m 7 #[vr x_] [(rr w_), (rr y_)] _
  refine Jvm.RoadKit.acmp (g := (mkF m 7 #[vr x_] [(rr w_), (rr y_)])) X3 hx rfl rfl rfl (pc0 := 7) (pc' := 10) (same := false) rfl (hb hby d17_7) rfl (decide_eq_false fun q => NE2_ (Value.ref.inj q)) (by decide) (by decide) ?_
  show S_ p e below T3 m 10 #[vr x_] [] _
  refine XS.iconst X3.here hx rfl (hb hby d17_10) ?_
  show S_ p e below T3 m 11 #[vr x_] [(ii 2)] _
  refine yG X3.here hx rfl 11 15 rfl (hb hby d17_11) ?_
  show S_ p e below T3 m 15 #[vr x_] [(ii 2)] _
  exact retOut X3 hx Bd.returns rfl (Or.inl ⟨rfl, Or.inl rfl, _, rfl⟩) (hb hby d17_15) hr
 ·show Q_size2 Z x_ w_ y_ h0 n0 _ T3.heap _
  rw [e3]
  exact ⟨rfl, N0, rfl⟩
theorem d18_0 : decode jdk_44_method_5_code 0 = .ok (.iload_n 1, 1) := by decide +kernel
theorem d18_1 : decode jdk_44_method_5_code 1 = .ok (.ifCond .ne 8, 3) := by decide +kernel
theorem d18_4 : decode jdk_44_method_5_code 4 = .ok (.aload_n 0, 1) := by decide +kernel
theorem d18_5 : decode jdk_44_method_5_code 5 = .ok (.getfield 13, 3) := by decide +kernel
theorem d18_8 : decode jdk_44_method_5_code 8 = .ok (.areturn, 1) := by decide +kernel
theorem ef_get0 (m : MethodId) (x_ : Addr) : entryFrame m #[(rr x_), (ii 0)] 2 = mkF m 0 #[vr x_, vi 0] [] := by first | (simp [entryFrame, mkF, argsToLocals, Value.category]; done) | rfl
def Q_get0 (Z : State) (x_ : Addr) (y_ : Addr) (h0 : Heap) (n0 : Nat) (v : Option Value) (h : Heap) (L : List Loc) : Prop := v = some (rr y_) ∧ Fr n0 L ∧ h = h0
set_option maxRecDepth 65536 in
set_option maxHeartbeats 40000000 in
theorem rm_get0 (l : Launch) (Z : State) (a0 : Array Value) (hw : HW Z a0) (ws : List Jvm.Cond) (x_ : Addr) (y_ : Addr) (h0 : Heap) (n0 : Nat) (O0 : Old Z n0 h0) (F0_ : Fld Z h0 x_ nm0 "e0" nm4 (rr y_)) :
  MFP l Z (⟨nm0, "get", "(I)Ljava/lang/Object;"⟩ : MethodName) jdk_44_method_5_code 2 (some (.object nm6)) ({ frames := 0, cells := 0, slots := 0, locals := 0 } : Room) ws #[(rr x_), (ii 0)] h0 (Q_get0 Z x_ y_ h0 n0) := by
 refine MetFree.of_bodySF (plainFor_of_name pn_java_util_ImmutableCollections_List12) hisR ?_
 intro p e s m args below meth c s₁ Bd hml0 hP hK
 obtain ⟨rfl, hZ, hh⟩ := hP
 have hx := Bd.exec
 have hby := Bd.bytes
 have hml : c.maxLocals = 2 := hml0
 have hown : s.vm.findClass nm0 = some m.cls := findClass_of_methodNamed Bd.named
 have hnm := (name_of_methodNamed Bd.named Bd.method).1
 have X0 : Stand p l e ({ frames := 0, cells := 0, slots := 0, locals := 0 } : Room) s m #[(rr x_), (ii 0)] below meth c s₁ [] 0 0 := Stand.of_body Bd
 have e0 : s₁.heap = h0 := by rw [← hh, Bd.state]; rfl
 have N0 := Fr.nil n0
 have kp0 : Keep h0 h0 [] := Keep.refl _ _
 have c0 : ∀ t, S_ p e below s₁ m 0 #[vr x_, vi 0] [] t → Steps p.tables e below (s₁.setTop (entryFrame m #[(rr x_), (ii 0)] 2)) t := fun t k => castTop (ef_get0 m x_) k
 generalize s₁.setTop (entryFrame m #[(rr x_), (ii 0)] 2) = st0 at c0 ⊢
 replace c0 : Kt p e below s₁ st0 (mkF m 0 #[vr x_, vi 0] []) := c0
 have c1 : Kt p e below s₁ st0 (mkF m 5 #[vr x_, vi 0] [(rr x_)]) := fun t k => by
  refine c0 t ?_
  show S_ p e below s₁ m 0 #[vr x_, vi 0] [] t
  refine XS.iloadN X0.here hx rfl (hb hby d18_0) rfl ?_
  show S_ p e below s₁ m 1 #[vr x_, vi 0] [(ii 0)] t
  refine XS.ifNo X0.here hx rfl (hb hby d18_1) rfl rfl ?_
  show S_ p e below s₁ m 4 #[vr x_, vi 0] [] t
  refine XS.aloadN X0.here hx rfl (hb hby d18_4) rfl rfl ?_
  exact k
 obtain ⟨T2, X2, e2, c2⟩ := kget X0 hx hZ hown (host := "") (Or.inl (w86 hw)) Via.refl e0 F0_ c1 rfl rfl (hb hby d18_5)
 obtain ⟨fs, hr, hrun, hended, hW, hsame⟩ := X2.leave (v := some (rr y_)) (fun h => by rw [Bd.returns] at h; cases h)
 refine ⟨_, _, c2 _ ?_, hrun, hended, _, _, rfl, ?_, ⟨_, rfl⟩, hW, hsame.mono (by decide) (by decide)⟩
 ·show S_ p e below T2 m 8 #[vr x_, vi 0] [(rr y_)] _
  exact retOut X2 hx Bd.returns rfl (Or.inr (Or.inr (Or.inr (Or.inr ⟨rfl, rfl, rfl⟩)))) (hb hby d18_8) hr
 ·show Q_get0 Z x_ y_ h0 n0 _ T2.heap _
  rw [e2]
  exact ⟨rfl, N0, rfl⟩
theorem d18_9 : decode jdk_44_method_5_code 9 = .ok (.iload_n 1, 1) := by decide +kernel
theorem d18_10 : decode jdk_44_method_5_code 10 = .ok (.iconst 1, 1) := by decide +kernel
theorem d18_11 : decode jdk_44_method_5_code 11 = .ok (.if_icmp .ne 18, 3) := by decide +kernel
theorem d18_14 : decode jdk_44_method_5_code 14 = .ok (.aload_n 0, 1) := by decide +kernel
theorem d18_15 : decode jdk_44_method_5_code 15 = .ok (.getfield 24, 3) := by decide +kernel
theorem d18_18 : decode jdk_44_method_5_code 18 = .ok (.getstatic 19, 3) := by decide +kernel
theorem d18_21 : decode jdk_44_method_5_code 21 = .ok (.if_acmp .eq 8, 3) := by decide +kernel
theorem d18_24 : decode jdk_44_method_5_code 24 = .ok (.aload_n 0, 1) := by decide +kernel
theorem d18_25 : decode jdk_44_method_5_code 25 = .ok (.getfield 24, 3) := by decide +kernel
theorem d18_28 : decode jdk_44_method_5_code 28 = .ok (.areturn, 1) := by decide +kernel
theorem ef_get1 (m : MethodId) (x_ : Addr) : entryFrame m #[(rr x_), (ii 1)] 2 = mkF m 0 #[vr x_, vi 1] [] := by first | (simp [entryFrame, mkF, argsToLocals, Value.category]; done) | rfl
def Q_get1 (Z : State) (x_ : Addr) (y_ : Addr) (w_ : Addr) (h0 : Heap) (n0 : Nat) (v : Option Value) (h : Heap) (L : List Loc) : Prop := v = some (rr y_) ∧ Fr n0 L ∧ h = h0
set_option maxRecDepth 65536 in
set_option maxHeartbeats 40000000 in
theorem rm_get1 (l : Launch) (Z : State) (a0 : Array Value) (hw : HW Z a0) (ws : List Jvm.Cond) (x_ : Addr) (y_ : Addr) (w_ : Addr) (h0 : Heap) (n0 : Nat) (O0 : Old Z n0 h0) (F0_ : Fld Z h0 x_ nm0 "e1" nm4 (rr y_)) (ZS1_ : Sta Z Z.heap nm9 "EMPTY" nm4 (rr w_)) (NE2_ : y_ ≠ w_) :
  MFP l Z (⟨nm0, "get", "(I)Ljava/lang/Object;"⟩ : MethodName) jdk_44_method_5_code 2 (some (.object nm6)) ({ frames := 0, cells := 0, slots := 0, locals := 0 } : Room) ws #[(rr x_), (ii 1)] h0 (Q_get1 Z x_ y_ w_ h0 n0) := by
 refine MetFree.of_bodySF (plainFor_of_name pn_java_util_ImmutableCollections_List12) hisR ?_
 intro p e s m args below meth c s₁ Bd hml0 hP hK
 obtain ⟨rfl, hZ, hh⟩ := hP
 have hx := Bd.exec
 have hby := Bd.bytes
 have hml : c.maxLocals = 2 := hml0
 have hown : s.vm.findClass nm0 = some m.cls := findClass_of_methodNamed Bd.named
 have hnm := (name_of_methodNamed Bd.named Bd.method).1
 have X0 : Stand p l e ({ frames := 0, cells := 0, slots := 0, locals := 0 } : Room) s m #[(rr x_), (ii 1)] below meth c s₁ [] 0 0 := Stand.of_body Bd
 have e0 : s₁.heap = h0 := by rw [← hh, Bd.state]; rfl
 have N0 := Fr.nil n0
 have kp0 : Keep h0 h0 [] := Keep.refl _ _
 have c0 : ∀ t, S_ p e below s₁ m 0 #[vr x_, vi 1] [] t → Steps p.tables e below (s₁.setTop (entryFrame m #[(rr x_), (ii 1)] 2)) t := fun t k => castTop (ef_get1 m x_) k
 generalize s₁.setTop (entryFrame m #[(rr x_), (ii 1)] 2) = st0 at c0 ⊢
 replace c0 : Kt p e below s₁ st0 (mkF m 0 #[vr x_, vi 1] []) := c0
 have c1 : Kt p e below s₁ st0 (mkF m 15 #[vr x_, vi 1] [(rr x_)]) := fun t k => by
  refine c0 t ?_
  show S_ p e below s₁ m 0 #[vr x_, vi 1] [] t
  refine XS.iloadN X0.here hx rfl (hb hby d18_0) rfl ?_
  show S_ p e below s₁ m 1 #[vr x_, vi 1] [(ii 1)] t
  refine yI X0.here hx rfl 1 9 rfl (hb hby d18_1) rfl rfl ?_
  show S_ p e below s₁ m 9 #[vr x_, vi 1] [] t
  refine XS.iloadN X0.here hx rfl (hb hby d18_9) rfl ?_
  show S_ p e below s₁ m 10 #[vr x_, vi 1] [(ii 1)] t
  refine XS.iconst X0.here hx rfl (hb hby d18_10) ?_
  show S_ p e below s₁ m 11 #[vr x_, vi 1] [(ii 1), (ii 1)] t
  refine XS.icmpNo X0.here hx rfl (hb hby d18_11) rfl rfl ?_
  show S_ p e below s₁ m 14 #[vr x_, vi 1] [] t
  refine XS.aloadN X0.here hx rfl (hb hby d18_14) rfl rfl ?_
  exact k
 obtain ⟨T2, X2, e2, c2⟩ := kget X0 hx hZ hown (host := "") (Or.inl (w88 hw)) Via.refl e0 F0_ c1 rfl rfl (hb hby d18_15)
 obtain ⟨T3, X3, e3, c3⟩ := kgetS X2 hx hZ hown (Or.inr (w99 hw)) Via.refl e2 (ZS1_.ext O0.2) c2 rfl (hb hby d18_18)
 have c4 : Kt p e below T3 st0 (mkF m 25 #[vr x_, vi 1] [(rr x_)]) := fun t k => by
  refine c3 t ?_
  show S_ p e below T3 m 21 #[vr x_, vi 1] [(rr w_), (rr y_)] t
  refine Jvm.RoadKit.acmp (g := (mkF m 21 #[vr x_, vi 1] [(rr w_), (rr y_)])) X3 hx rfl rfl rfl (pc0 := 21) (pc' := 24) (same := false) rfl (hb hby d18_21) rfl (decide_eq_false fun q => NE2_ (Value.ref.inj q)) (by decide) (by decide) ?_
  show S_ p e below T3 m 24 #[vr x_, vi 1] [] t
  refine XS.aloadN X3.here hx rfl (hb hby d18_24) rfl rfl ?_
  exact k
 obtain ⟨T5, X5, e5, c5⟩ := kget X3 hx hZ hown (host := "") (Or.inl (w88 hw)) Via.refl e3 F0_ c4 rfl rfl (hb hby d18_25)
 obtain ⟨fs, hr, hrun, hended, hW, hsame⟩ := X5.leave (v := some (rr y_)) (fun h => by rw [Bd.returns] at h; cases h)
 refine ⟨_, _, c5 _ ?_, hrun, hended, _, _, rfl, ?_, ⟨_, rfl⟩, hW, hsame.mono (by decide) (by decide)⟩
 ·show S_ p e below T5 m 28 #[vr x_, vi 1] [(rr y_)] _
  exact retOut X5 hx Bd.returns rfl (Or.inr (Or.inr (Or.inr (Or.inr ⟨rfl, rfl, rfl⟩)))) (hb hby d18_28) hr
 ·show Q_get1 Z x_ y_ w_ h0 n0 _ T5.heap _
  rw [e5]
  exact ⟨rfl, N0, rfl⟩
theorem d19_0 : decode prog_6_method_10_code 0 = .ok (.aload_n 0, 1) := by decide +kernel
theorem d19_1 : decode prog_6_method_10_code 1 = .ok (.getfield 7, 3) := by decide +kernel
theorem d19_4 : decode prog_6_method_10_code 4 = .ok (.areturn, 1) := by decide +kernel
theorem ef_cont (m : MethodId) (x_ : Addr) : entryFrame m #[(rr x_)] 1 = mkF m 0 #[vr x_] [] := by first | (simp [entryFrame, mkF, argsToLocals, Value.category]; done) | rfl
def Q_cont (Z : State) (x_ : Addr) (y_ : Addr) (h0 : Heap) (n0 : Nat) (v : Option Value) (h : Heap) (L : List Loc) : Prop := v = some (rr y_) ∧ Fr n0 L ∧ h = h0
set_option maxRecDepth 65536 in
set_option maxHeartbeats 40000000 in
theorem rm_cont (l : Launch) (Z : State) (a0 : Array Value) (hw : HW Z a0) (ws : List Jvm.Cond) (x_ : Addr) (y_ : Addr) (h0 : Heap) (n0 : Nat) (O0 : Old Z n0 h0) (F0_ : Fld Z h0 x_ nm2 "container" "Ljava/lang/String;" (rr y_)) :
  MFP l Z (⟨nm2, "container", "()Ljava/lang/String;"⟩ : MethodName) prog_6_method_10_code 1 (some (.object nm1)) ({ frames := 0, cells := 0, slots := 0, locals := 0 } : Room) ws #[(rr x_)] h0 (Q_cont Z x_ y_ h0 n0) := by
 refine MetFree.of_bodySF (plainFor_of_name pn_portcullis_catalog_Scope) hisR ?_
 intro p e s m args below meth c s₁ Bd hml0 hP hK
 obtain ⟨rfl, hZ, hh⟩ := hP
 have hx := Bd.exec
 have hby := Bd.bytes
 have hml : c.maxLocals = 1 := hml0
 have hown : s.vm.findClass nm2 = some m.cls := findClass_of_methodNamed Bd.named
 have hnm := (name_of_methodNamed Bd.named Bd.method).1
 have X0 : Stand p l e ({ frames := 0, cells := 0, slots := 0, locals := 0 } : Room) s m #[(rr x_)] below meth c s₁ [] 0 0 := Stand.of_body Bd
 have e0 : s₁.heap = h0 := by rw [← hh, Bd.state]; rfl
 have N0 := Fr.nil n0
 have kp0 : Keep h0 h0 [] := Keep.refl _ _
 have c0 : ∀ t, S_ p e below s₁ m 0 #[vr x_] [] t → Steps p.tables e below (s₁.setTop (entryFrame m #[(rr x_)] 1)) t := fun t k => castTop (ef_cont m x_) k
 generalize s₁.setTop (entryFrame m #[(rr x_)] 1) = st0 at c0 ⊢
 replace c0 : Kt p e below s₁ st0 (mkF m 0 #[vr x_] []) := c0
 have c1 : Kt p e below s₁ st0 (mkF m 1 #[vr x_] [(rr x_)]) := fun t k => by
  refine c0 t ?_
  show S_ p e below s₁ m 0 #[vr x_] [] t
  refine XS.aloadN X0.here hx rfl (hb hby d19_0) rfl rfl ?_
  exact k
 obtain ⟨T2, X2, e2, c2⟩ := kget X0 hx hZ hown (host := "") (Or.inl (w38 hw)) Via.refl e0 F0_ c1 rfl rfl (hb hby d19_1)
 obtain ⟨fs, hr, hrun, hended, hW, hsame⟩ := X2.leave (v := some (rr y_)) (fun h => by rw [Bd.returns] at h; cases h)
 refine ⟨_, _, c2 _ ?_, hrun, hended, _, _, rfl, ?_, ⟨_, rfl⟩, hW, hsame.mono (by decide) (by decide)⟩
 ·show S_ p e below T2 m 4 #[vr x_] [(rr y_)] _
  exact retOut X2 hx Bd.returns rfl (Or.inr (Or.inr (Or.inr (Or.inr ⟨rfl, rfl, rfl⟩)))) (hb hby d19_4) hr
 ·show Q_cont Z x_ y_ h0 n0 _ T2.heap _
  rw [e2]
  exact ⟨rfl, N0, rfl⟩
theorem d20_0 : decode jdk_42_method_66_code 0 = .ok (.aload_n 0, 1) := by decide +kernel
theorem d20_1 : decode jdk_42_method_66_code 1 = .ok (.aload_n 1, 1) := by decide +kernel
theorem d20_2 : decode jdk_42_method_66_code 2 = .ok (.if_acmp .ne 5, 3) := by decide +kernel
theorem d20_5 : decode jdk_42_method_66_code 5 = .ok (.iconst 1, 1) := by decide +kernel
theorem d20_6 : decode jdk_42_method_66_code 6 = .ok (.ireturn, 1) := by decide +kernel
theorem ef_eqs (m : MethodId) (x_ : Addr) (x_ : Addr) : entryFrame m #[(rr x_), (rr x_)] 3 = mkF m 0 #[vr x_, vr x_, u_] [] := by first | (simp [entryFrame, mkF, argsToLocals, Value.category]; done) | rfl
def Q_eqs (Z : State) (x_ : Addr) (h0 : Heap) (n0 : Nat) (v : Option Value) (h : Heap) (L : List Loc) : Prop := v = some (ii 1) ∧ Fr n0 L ∧ h = h0
set_option maxRecDepth 65536 in
set_option maxHeartbeats 40000000 in
theorem rm_eqs (l : Launch) (Z : State) (a0 : Array Value) (hw : HW Z a0) (ws : List Jvm.Cond) (x_ : Addr) (h0 : Heap) (n0 : Nat) (O0 : Old Z n0 h0) :
  MFP l Z (⟨nm1, "equals", "(Ljava/lang/Object;)Z"⟩ : MethodName) jdk_42_method_66_code 3 (some .boolean) ({ frames := 0, cells := 0, slots := 0, locals := 0 } : Room) ws #[(rr x_), (rr x_)] h0 (Q_eqs Z x_ h0 n0) := by
 refine MetFree.of_bodySF (plainFor_of_name pn_java_lang_String) hisR ?_
 intro p e s m args below meth c s₁ Bd hml0 hP hK
 obtain ⟨rfl, hZ, hh⟩ := hP
 have hx := Bd.exec
 have hby := Bd.bytes
 have hml : c.maxLocals = 3 := hml0
 have hown : s.vm.findClass nm1 = some m.cls := findClass_of_methodNamed Bd.named
 have hnm := (name_of_methodNamed Bd.named Bd.method).1
 have X0 : Stand p l e ({ frames := 0, cells := 0, slots := 0, locals := 0 } : Room) s m #[(rr x_), (rr x_)] below meth c s₁ [] 0 0 := Stand.of_body Bd
 have e0 : s₁.heap = h0 := by rw [← hh, Bd.state]; rfl
 have N0 := Fr.nil n0
 have kp0 : Keep h0 h0 [] := Keep.refl _ _
 have c0 : ∀ t, S_ p e below s₁ m 0 #[vr x_, vr x_, u_] [] t → Steps p.tables e below (s₁.setTop (entryFrame m #[(rr x_), (rr x_)] 3)) t := fun t k => castTop (ef_eqs m x_ x_) k
 generalize s₁.setTop (entryFrame m #[(rr x_), (rr x_)] 3) = st0 at c0 ⊢
 replace c0 : Kt p e below s₁ st0 (mkF m 0 #[vr x_, vr x_, u_] []) := c0
 obtain ⟨fs, hr, hrun, hended, hW, hsame⟩ := X0.leave (v := some (ii 1)) (fun h => by rw [Bd.returns] at h; cases h)
 refine ⟨_, _, c0 _ ?_, hrun, hended, _, _, rfl, ?_, ⟨_, rfl⟩, hW, hsame.mono (by decide) (by decide)⟩
 ·show S_ p e below s₁ m 0 #[vr x_, vr x_, u_] [] _
  refine XS.aloadN X0.here hx rfl (hb hby d20_0) rfl rfl ?_
  show S_ p e below s₁ m 1 #[vr x_, vr x_, u_] [(rr x_)] _
  refine XS.aloadN X0.here hx rfl (hb hby d20_1) rfl rfl ?_
  show S_ p e below s₁ m 2 #[vr x_, vr x_, u_] [(rr x_), (rr x_)] _
  refine Jvm.RoadKit.acmp (g := (mkF m 2 #[vr x_, vr x_, u_] [(rr x_), (rr x_)])) X0 hx rfl rfl rfl (pc0 := 2) (pc' := 5) (same := true) rfl (hb hby d20_2) rfl (decide_eq_true rfl) (by decide) (by decide) ?_
  show S_ p e below s₁ m 5 #[vr x_, vr x_, u_] [] _
  refine XS.iconst X0.here hx rfl (hb hby d20_5) ?_
  show S_ p e below s₁ m 6 #[vr x_, vr x_, u_] [(ii 1)] _
  exact retN X0 hx (t := .boolean) Bd.returns (by simp) (hb hby d20_6) hr
 ·show Q_eqs Z x_ h0 n0 _ s₁.heap _
  rw [e0]
  exact ⟨rfl, N0, rfl⟩
theorem pn_portcullis_catalog_ScopeGrantScopesPinLaw : plainName nm3 = true := by first | (simp [plainName, overriddenIn]; done) | decide +kernel
theorem d21_0 : decode method_3_code 0 = .ok (.aload_n 0, 1) := by decide +kernel
theorem d21_1 : decode method_3_code 1 = .ok (.invokevirtual 12, 3) := by decide +kernel
theorem d21_4 : decode method_3_code 4 = .ok (.ifCond .ne 18, 3) := by decide +kernel
theorem d21_7 : decode method_3_code 7 = .ok (.aload_n 1, 1) := by decide +kernel
theorem d21_8 : decode method_3_code 8 = .ok (.aload_n 0, 1) := by decide +kernel
theorem d21_9 : decode method_3_code 9 = .ok (.invokevirtual 18, 3) := by decide +kernel
theorem pd_prLjava_lang_String_ : parseMethodDescriptor "()Ljava/lang/String;" = some ⟨[], some (.object nm1)⟩ := by decide +kernel
theorem d21_12 : decode method_3_code 12 = .ok (.invokevirtual 22, 3) := by decide +kernel
theorem pd_pLjava_lang_Object_rZ : parseMethodDescriptor "(Ljava/lang/Object;)Z" = some ⟨[(.object nm6)], some .boolean⟩ := by decide +kernel
theorem d21_15 : decode method_3_code 15 = .ok (.ifCond .eq 7, 3) := by decide +kernel
theorem d21_18 : decode method_3_code 18 = .ok (.iconst 1, 1) := by decide +kernel
theorem d21_19 : decode method_3_code 19 = .ok (.goto 4, 3) := by decide +kernel
theorem d21_23 : decode method_3_code 23 = .ok (.ireturn, 1) := by decide +kernel
theorem ef_loc (m : MethodId) (x_ : Addr) (y_ : Addr) : entryFrame m #[(rr x_), (rr y_)] 2 = mkF m 0 #[vr x_, vr y_] [] := by first | (simp [entryFrame, mkF, argsToLocals, Value.category]; done) | rfl
def Q_loc (Z : State) (x_ : Addr) (y_ : Addr) (h0 : Heap) (n0 : Nat) (v : Option Value) (h : Heap) (L : List Loc) : Prop := v = some (ii 1) ∧ Fr n0 L ∧ h = h0
set_option maxRecDepth 65536 in
set_option maxHeartbeats 40000000 in
theorem rm_loc (l : Launch) (Z : State) (a0 : Array Value) (hw : HW Z a0) (ws : List Jvm.Cond) (x_ : Addr) (y_ : Addr) (h0 : Heap) (n0 : Nat) (O0 : Old Z n0 h0) (E0_ : Exa Z h0 x_ nm2) (F1_ : Fld Z h0 x_ nm2 "container" "Ljava/lang/String;" (rr y_)) (E2_ : Exa Z h0 y_ nm1) :
  MFP l Z (⟨nm3, "isLocalNamed", "(Lportcullis/catalog/Scope;Ljava/lang/String;)Z"⟩ : MethodName) method_3_code 2 (some .boolean) ({ frames := 1, cells := 0, slots := 0, locals := 14 } : Room) ws #[(rr x_), (rr y_)] h0 (Q_loc Z x_ y_ h0 n0) := by
 refine MetFree.of_bodySF (plainFor_of_name pn_portcullis_catalog_ScopeGrantScopesPinLaw) hisR ?_
 intro p e s m args below meth c s₁ Bd hml0 hP hK
 obtain ⟨rfl, hZ, hh⟩ := hP
 have hx := Bd.exec
 have hby := Bd.bytes
 have hml : c.maxLocals = 2 := hml0
 have hown : s.vm.findClass nm3 = some m.cls := findClass_of_methodNamed Bd.named
 have hnm := (name_of_methodNamed Bd.named Bd.method).1
 have X0 : Stand p l e ({ frames := 1, cells := 0, slots := 0, locals := 14 } : Room) s m #[(rr x_), (rr y_)] below meth c s₁ [] 0 0 := Stand.of_body Bd
 have e0 : s₁.heap = h0 := by rw [← hh, Bd.state]; rfl
 have N0 := Fr.nil n0
 have kp0 : Keep h0 h0 [] := Keep.refl _ _
 have c0 : ∀ t, S_ p e below s₁ m 0 #[vr x_, vr y_] [] t → Steps p.tables e below (s₁.setTop (entryFrame m #[(rr x_), (rr y_)] 2)) t := fun t k => castTop (ef_loc m x_ y_) k
 generalize s₁.setTop (entryFrame m #[(rr x_), (rr y_)] 2) = st0 at c0 ⊢
 replace c0 : Kt p e below s₁ st0 (mkF m 0 #[vr x_, vr y_] []) := c0
 have c1 : Kt p e below s₁ st0 (mkF m 1 #[vr x_, vr y_] [(rr x_)]) := fun t k => by
  refine c0 t ?_
  show S_ p e below s₁ m 0 #[vr x_, vr y_] [] t
  refine XS.aloadN X0.here hx rfl (hb hby d21_0) rfl rfl ?_
  exact k
 obtain ⟨_, T2, L2, X2, hQ2, c2⟩ := kvirt X0 hx hZ hown (w110 hw) (w46 hw) (w48 hw) (w47 hw) (w49 hw) (w28 hw) (rm_comF l Z a0 hw [] x_ y_ h0 n0 O0 F1_) e0 E0_ c1 hml pd_prZ [] [] 0 (hb hby d21_1) rfl rfl rfl rfl rfl rfl
 obtain ⟨rfl, N3q, K4⟩ := hQ2
 have N3 := Fr.app N0 N3q
 have c5 : Kt p e below T2 st0 (mkF m 9 #[vr x_, vr y_] [(rr x_), (rr y_)]) := fun t k => by
  refine c2 t ?_
  show S_ p e below T2 m 4 #[vr x_, vr y_] [(ii 0)] t
  refine XS.ifNo X2.here hx rfl (hb hby d21_4) rfl rfl ?_
  show S_ p e below T2 m 7 #[vr x_, vr y_] [] t
  refine XS.aloadN X2.here hx rfl (hb hby d21_7) rfl rfl ?_
  show S_ p e below T2 m 8 #[vr x_, vr y_] [(rr y_)] t
  refine XS.aloadN X2.here hx rfl (hb hby d21_8) rfl rfl ?_
  exact k
 obtain ⟨_, T6, L6, X6, hQ6, c6⟩ := kvirt X2 hx hZ hown (w114 hw) (w115 hw) (w117 hw) (w116 hw) (w118 hw) (w28 hw) (rm_cont l Z a0 hw [] x_ y_ h0 n0 O0 F1_) K4 E0_ c5 hml pd_prLjava_lang_String_ [] [(rr y_)] 1 (hb hby d21_9) rfl rfl rfl rfl rfl rfl
 obtain ⟨rfl, N7q, K8⟩ := hQ6
 have N7 := Fr.app N3 N7q
 obtain ⟨_, T9, L9, X9, hQ9, c9⟩ := kvirt X6 hx hZ hown (w119 hw) (w120 hw) (w122 hw) (w121 hw) (w123 hw) (w6 hw) (rm_eqs l Z a0 hw [] y_ h0 n0 O0 ) K8 E2_ c6 hml pd_pLjava_lang_Object_rZ [(rr y_)] [] 0 (hb hby d21_12) rfl rfl rfl rfl rfl rfl
 obtain ⟨rfl, N10q, K11⟩ := hQ9
 have N10 := Fr.app N7 N10q
 obtain ⟨fs, hr, hrun, hended, hW, hsame⟩ := X9.leave (v := some (ii 1)) (fun h => by rw [Bd.returns] at h; cases h)
 refine ⟨_, _, c9 _ ?_, hrun, hended, _, _, rfl, ?_, ⟨_, rfl⟩, hW, hsame.mono (by decide) (by decide)⟩
 ·show S_ p e below T9 m 15 #[vr x_, vr y_] [(ii 1)] _
  refine XS.ifNo X9.here hx rfl (hb hby d21_15) rfl rfl ?_
  show S_ p e below T9 m 18 #[vr x_, vr y_] [] _
  refine XS.iconst X9.here hx rfl (hb hby d21_18) ?_
  show S_ p e below T9 m 19 #[vr x_, vr y_] [(ii 1)] _
  refine yG X9.here hx rfl 19 23 rfl (hb hby d21_19) ?_
  show S_ p e below T9 m 23 #[vr x_, vr y_] [(ii 1)] _
  exact retN X9 hx (t := .boolean) Bd.returns (by simp) (hb hby d21_23) hr
 ·show Q_loc Z x_ y_ h0 n0 _ T9.heap _
  rw [K11]
  exact ⟨rfl, N10, rfl⟩
theorem own_fin (x : Int32) : ∃ k : Fin 256, (x &&& 255) = Int32.ofNat k.val := by
 have h : (x &&& 255).toBitVec.toNat < 256 := by
  simp only [Int32.toBitVec_and, BitVec.toNat_and]
  exact Nat.lt_succ_of_le Nat.and_le_right
 refine ⟨⟨_, h⟩, ?_⟩
 apply Int32.toBitVec_inj.mp
 show _ = BitVec.ofNat 32 _
 rw [BitVec.ofNat_toNat]; simp
theorem own_small (x : Int32) : ¬ ((255 : Int32) < (nar .char ((x &&& (255 : Int32)).toUInt32.toUInt16.toUInt32.toInt32))) := by
 have t : ∀ k : Fin 256, ¬ ((255 : Int32) < (nar .char ((Int32.ofNat k.val).toUInt32.toUInt16.toUInt32.toInt32))) := by decide +kernel
 obtain ⟨k, e⟩ := own_fin x
 rw [e]; exact t k
theorem d22_0 : decode method_2_code 0 = .ok (.iload_n 1, 1) := by decide +kernel
theorem d22_1 : decode method_2_code 1 = .ok (.sipush 255, 3) := by decide +kernel
theorem d22_4 : decode method_2_code 4 = .ok (.iand, 1) := by decide +kernel
theorem d22_5 : decode method_2_code 5 = .ok (.i2c, 1) := by decide +kernel
theorem d22_6 : decode method_2_code 6 = .ok (.istore 4, 2) := by decide +kernel
theorem d22_8 : decode method_2_code 8 = .ok (.iload_n 2, 1) := by decide +kernel
theorem d22_9 : decode method_2_code 9 = .ok (.sipush 255, 3) := by decide +kernel
theorem d22_12 : decode method_2_code 12 = .ok (.iand, 1) := by decide +kernel
theorem d22_13 : decode method_2_code 13 = .ok (.i2c, 1) := by decide +kernel
theorem d22_14 : decode method_2_code 14 = .ok (.istore 5, 2) := by decide +kernel
theorem d22_16 : decode method_2_code 16 = .ok (.iload_n 3, 1) := by decide +kernel
theorem d22_17 : decode method_2_code 17 = .ok (.sipush 255, 3) := by decide +kernel
theorem d22_20 : decode method_2_code 20 = .ok (.iand, 1) := by decide +kernel
theorem d22_21 : decode method_2_code 21 = .ok (.i2c, 1) := by decide +kernel
theorem d22_22 : decode method_2_code 22 = .ok (.istore 6, 2) := by decide +kernel
theorem d22_24 : decode method_2_code 24 = .ok (.iload_n 0, 1) := by decide +kernel
theorem d22_25 : decode method_2_code 25 = .ok (.ifCond .ne 14, 3) := by decide +kernel
theorem d22_28 : decode method_2_code 28 = .ok (.new 7, 3) := by decide +kernel
theorem d22_31 : decode method_2_code 31 = .ok (.dup, 1) := by decide +kernel
theorem d22_32 : decode method_2_code 32 = .ok (.iconst 0, 1) := by decide +kernel
theorem d22_33 : decode method_2_code 33 = .ok (.newarray .char, 2) := by decide +kernel
theorem d22_35 : decode method_2_code 35 = .ok (.invokespecial 9, 3) := by decide +kernel
theorem pd_pACrV : parseMethodDescriptor "([C)V" = some ⟨[(.array .char)], none⟩ := by decide +kernel
theorem d22_38 : decode method_2_code 38 = .ok (.areturn, 1) := by decide +kernel
theorem d22_39 : decode method_2_code 39 = .ok (.iload_n 0, 1) := by decide +kernel
theorem d22_40 : decode method_2_code 40 = .ok (.iconst 1, 1) := by decide +kernel
theorem d22_41 : decode method_2_code 41 = .ok (.if_icmp .ne 19, 3) := by decide +kernel
theorem d22_44 : decode method_2_code 44 = .ok (.new 7, 3) := by decide +kernel
theorem d22_47 : decode method_2_code 47 = .ok (.dup, 1) := by decide +kernel
theorem d22_48 : decode method_2_code 48 = .ok (.iconst 1, 1) := by decide +kernel
theorem d22_49 : decode method_2_code 49 = .ok (.newarray .char, 2) := by decide +kernel
theorem d22_51 : decode method_2_code 51 = .ok (.dup, 1) := by decide +kernel
theorem d22_52 : decode method_2_code 52 = .ok (.iconst 0, 1) := by decide +kernel
theorem d22_53 : decode method_2_code 53 = .ok (.iload 4, 2) := by decide +kernel
theorem d22_55 : decode method_2_code 55 = .ok (.castore, 1) := by decide +kernel
theorem d22_56 : decode method_2_code 56 = .ok (.invokespecial 9, 3) := by decide +kernel
theorem d22_59 : decode method_2_code 59 = .ok (.areturn, 1) := by decide +kernel
theorem d22_60 : decode method_2_code 60 = .ok (.iload_n 0, 1) := by decide +kernel
theorem d22_61 : decode method_2_code 61 = .ok (.iconst 2, 1) := by decide +kernel
theorem d22_62 : decode method_2_code 62 = .ok (.if_icmp .ne 24, 3) := by decide +kernel
theorem d22_65 : decode method_2_code 65 = .ok (.new 7, 3) := by decide +kernel
theorem d22_68 : decode method_2_code 68 = .ok (.dup, 1) := by decide +kernel
theorem d22_69 : decode method_2_code 69 = .ok (.iconst 2, 1) := by decide +kernel
theorem d22_70 : decode method_2_code 70 = .ok (.newarray .char, 2) := by decide +kernel
theorem d22_72 : decode method_2_code 72 = .ok (.dup, 1) := by decide +kernel
theorem d22_73 : decode method_2_code 73 = .ok (.iconst 0, 1) := by decide +kernel
theorem d22_74 : decode method_2_code 74 = .ok (.iload 4, 2) := by decide +kernel
theorem d22_76 : decode method_2_code 76 = .ok (.castore, 1) := by decide +kernel
theorem d22_77 : decode method_2_code 77 = .ok (.dup, 1) := by decide +kernel
theorem d22_78 : decode method_2_code 78 = .ok (.iconst 1, 1) := by decide +kernel
theorem d22_79 : decode method_2_code 79 = .ok (.iload 5, 2) := by decide +kernel
theorem d22_81 : decode method_2_code 81 = .ok (.castore, 1) := by decide +kernel
theorem d22_82 : decode method_2_code 82 = .ok (.invokespecial 9, 3) := by decide +kernel
theorem d22_85 : decode method_2_code 85 = .ok (.areturn, 1) := by decide +kernel
theorem d22_86 : decode method_2_code 86 = .ok (.new 7, 3) := by decide +kernel
theorem d22_89 : decode method_2_code 89 = .ok (.dup, 1) := by decide +kernel
theorem d22_90 : decode method_2_code 90 = .ok (.iconst 3, 1) := by decide +kernel
theorem d22_91 : decode method_2_code 91 = .ok (.newarray .char, 2) := by decide +kernel
theorem d22_93 : decode method_2_code 93 = .ok (.dup, 1) := by decide +kernel
theorem d22_94 : decode method_2_code 94 = .ok (.iconst 0, 1) := by decide +kernel
theorem d22_95 : decode method_2_code 95 = .ok (.iload 4, 2) := by decide +kernel
theorem d22_97 : decode method_2_code 97 = .ok (.castore, 1) := by decide +kernel
theorem d22_98 : decode method_2_code 98 = .ok (.dup, 1) := by decide +kernel
theorem d22_99 : decode method_2_code 99 = .ok (.iconst 1, 1) := by decide +kernel
theorem d22_100 : decode method_2_code 100 = .ok (.iload 5, 2) := by decide +kernel
theorem d22_102 : decode method_2_code 102 = .ok (.castore, 1) := by decide +kernel
theorem d22_103 : decode method_2_code 103 = .ok (.dup, 1) := by decide +kernel
theorem d22_104 : decode method_2_code 104 = .ok (.iconst 2, 1) := by decide +kernel
theorem d22_105 : decode method_2_code 105 = .ok (.iload 6, 2) := by decide +kernel
theorem d22_107 : decode method_2_code 107 = .ok (.castore, 1) := by decide +kernel
theorem d22_108 : decode method_2_code 108 = .ok (.invokespecial 9, 3) := by decide +kernel
theorem d22_111 : decode method_2_code 111 = .ok (.areturn, 1) := by decide +kernel
theorem ef_draw (m : MethodId) (n_ : Int32) (p_ : Int32) (q_ : Int32) (r_ : Int32) : entryFrame m #[(.int n_), (.int p_), (.int q_), (.int r_)] 7 = mkF m 0 #[vi n_, vi p_, vi q_, vi r_, u_, u_, u_] [] := by first | (simp [entryFrame, mkF, argsToLocals, Value.category]; done) | rfl
def Q_draw (Z : State) (n_ : Int32) (p_ : Int32) (q_ : Int32) (r_ : Int32) (z_ : Int32) (h0 : Heap) (n0 : Nat) (v : Option Value) (h : Heap) (L : List Loc) : Prop := ∃ (b_ : Addr), v = some (rr b_) ∧ Fr n0 L ∧ Keep h0 h [] ∧ Exa Z h b_ nm1 ∧ n0 ≤ b_ ∧ h0.size ≤ b_
set_option maxRecDepth 65536 in
set_option maxHeartbeats 40000000 in
theorem rm_draw (l : Launch) (Z : State) (a0 : Array Value) (hw : HW Z a0) (ws : List Jvm.Cond) (n_ : Int32) (p_ : Int32) (q_ : Int32) (r_ : Int32) (z_ : Int32) (h0 : Heap) (n0 : Nat) (O0 : Old Z n0 h0) (ZS0_ : Sta Z Z.heap nm1 "COMPACT_STRINGS" "Z" (.int z_)) (hz_ : ¬ (z_ = (0 : Int32))) (hlit_ : Jvm.Lit.constHeld Z nm1 7) (hcw : Jvm.Lit.compactW.before a0 Z = true) :
  MFI l Z (⟨nm3, "draw", "(IIII)Ljava/lang/String;"⟩ : MethodName) method_2_code 7 (some (.object nm1)) ({ frames := 4, cells := 4, slots := 10, locals := 66 } : Room) ws #[(.int n_), (.int p_), (.int q_), (.int r_)] h0 (Q_draw Z n_ p_ q_ r_ z_ h0 n0) := by
 refine MetFree.of_bodySF (plainFor_of_name pn_portcullis_catalog_ScopeGrantScopesPinLaw) hisR ?_
 intro p e s m args below meth c s₁ Bd hml0 hP hK
 obtain ⟨rfl, hZ, hh, hI⟩ := hP
 have hx := Bd.exec
 have hby := Bd.bytes
 have hml : c.maxLocals = 7 := hml0
 have hown : s.vm.findClass nm3 = some m.cls := findClass_of_methodNamed Bd.named
 have hnm := (name_of_methodNamed Bd.named Bd.method).1
 have X0 : Stand p l e ({ frames := 4, cells := 4, slots := 10, locals := 66 } : Room) (s.setVm s.vm) m #[(.int n_), (.int p_), (.int q_), (.int r_)] below meth c s₁ [] 0 0 := Stand.of_body Bd
 have e0 : s₁.heap = h0 := by rw [← hh, Bd.state]; rfl
 have N0 := Fr.nil n0
 have kp0 : Keep h0 h0 [] := Keep.refl _ _
 have hS0 : s.Since s.vm 0 := (State.WarmedH.refl s).since 0
 have c0 : ∀ t, S_ p e below s₁ m 0 #[vi n_, vi p_, vi q_, vi r_, u_, u_, u_] [] t → Steps p.tables e below (s₁.setTop (entryFrame m #[(.int n_), (.int p_), (.int q_), (.int r_)] 7)) t := fun t k => castTop (ef_draw m n_ p_ q_ r_) k
 generalize s₁.setTop (entryFrame m #[(.int n_), (.int p_), (.int q_), (.int r_)] 7) = st0 at c0 ⊢
 replace c0 : Kt p e below s₁ st0 (mkF m 0 #[vi n_, vi p_, vi q_, vi r_, u_, u_, u_] []) := c0
 have c1 : Kt p e below s₁ st0 (mkF m 25 #[vi n_, vi p_, vi q_, vi r_, .val (.int ((p_ &&& (255 : Int32)).toUInt32.toUInt16.toUInt32.toInt32)), .val (.int ((q_ &&& (255 : Int32)).toUInt32.toUInt16.toUInt32.toInt32)), .val (.int ((r_ &&& (255 : Int32)).toUInt32.toUInt16.toUInt32.toInt32))] [(.int n_)]) := fun t k => by
  refine c0 t ?_
  show S_ p e below s₁ m 0 #[vi n_, vi p_, vi q_, vi r_, u_, u_, u_] [] t
  refine XS.iloadN X0.here hx rfl (hb hby d22_0) rfl ?_
  show S_ p e below s₁ m 1 #[vi n_, vi p_, vi q_, vi r_, u_, u_, u_] [(.int p_)] t
  refine XS.sipush X0.here hx rfl (hb hby d22_1) ?_
  show S_ p e below s₁ m 4 #[vi n_, vi p_, vi q_, vi r_, u_, u_, u_] [(ii 255), (.int p_)] t
  refine XS.iand X0.here hx rfl (hb hby d22_4) rfl ?_
  show S_ p e below s₁ m 5 #[vi n_, vi p_, vi q_, vi r_, u_, u_, u_] [(.int (p_ &&& (255 : Int32)))] t
  refine XS.i2c X0.here hx rfl (hb hby d22_5) rfl ?_
  show S_ p e below s₁ m 6 #[vi n_, vi p_, vi q_, vi r_, u_, u_, u_] [(.int ((p_ &&& (255 : Int32)).toUInt32.toUInt16.toUInt32.toInt32))] t
  refine XS.istore X0.here hx rfl (hb hby d22_6) rfl (l' := #[vi n_, vi p_, vi q_, vi r_, .val (.int ((p_ &&& (255 : Int32)).toUInt32.toUInt16.toUInt32.toInt32)), u_, u_]) rfl ?_
  show S_ p e below s₁ m 8 #[vi n_, vi p_, vi q_, vi r_, .val (.int ((p_ &&& (255 : Int32)).toUInt32.toUInt16.toUInt32.toInt32)), u_, u_] [] t
  refine XS.iloadN X0.here hx rfl (hb hby d22_8) rfl ?_
  show S_ p e below s₁ m 9 #[vi n_, vi p_, vi q_, vi r_, .val (.int ((p_ &&& (255 : Int32)).toUInt32.toUInt16.toUInt32.toInt32)), u_, u_] [(.int q_)] t
  refine XS.sipush X0.here hx rfl (hb hby d22_9) ?_
  show S_ p e below s₁ m 12 #[vi n_, vi p_, vi q_, vi r_, .val (.int ((p_ &&& (255 : Int32)).toUInt32.toUInt16.toUInt32.toInt32)), u_, u_] [(ii 255), (.int q_)] t
  refine XS.iand X0.here hx rfl (hb hby d22_12) rfl ?_
  show S_ p e below s₁ m 13 #[vi n_, vi p_, vi q_, vi r_, .val (.int ((p_ &&& (255 : Int32)).toUInt32.toUInt16.toUInt32.toInt32)), u_, u_] [(.int (q_ &&& (255 : Int32)))] t
  refine XS.i2c X0.here hx rfl (hb hby d22_13) rfl ?_
  show S_ p e below s₁ m 14 #[vi n_, vi p_, vi q_, vi r_, .val (.int ((p_ &&& (255 : Int32)).toUInt32.toUInt16.toUInt32.toInt32)), u_, u_] [(.int ((q_ &&& (255 : Int32)).toUInt32.toUInt16.toUInt32.toInt32))] t
  refine XS.istore X0.here hx rfl (hb hby d22_14) rfl (l' := #[vi n_, vi p_, vi q_, vi r_, .val (.int ((p_ &&& (255 : Int32)).toUInt32.toUInt16.toUInt32.toInt32)), .val (.int ((q_ &&& (255 : Int32)).toUInt32.toUInt16.toUInt32.toInt32)), u_]) rfl ?_
  show S_ p e below s₁ m 16 #[vi n_, vi p_, vi q_, vi r_, .val (.int ((p_ &&& (255 : Int32)).toUInt32.toUInt16.toUInt32.toInt32)), .val (.int ((q_ &&& (255 : Int32)).toUInt32.toUInt16.toUInt32.toInt32)), u_] [] t
  refine XS.iloadN X0.here hx rfl (hb hby d22_16) rfl ?_
  show S_ p e below s₁ m 17 #[vi n_, vi p_, vi q_, vi r_, .val (.int ((p_ &&& (255 : Int32)).toUInt32.toUInt16.toUInt32.toInt32)), .val (.int ((q_ &&& (255 : Int32)).toUInt32.toUInt16.toUInt32.toInt32)), u_] [(.int r_)] t
  refine XS.sipush X0.here hx rfl (hb hby d22_17) ?_
  show S_ p e below s₁ m 20 #[vi n_, vi p_, vi q_, vi r_, .val (.int ((p_ &&& (255 : Int32)).toUInt32.toUInt16.toUInt32.toInt32)), .val (.int ((q_ &&& (255 : Int32)).toUInt32.toUInt16.toUInt32.toInt32)), u_] [(ii 255), (.int r_)] t
  refine XS.iand X0.here hx rfl (hb hby d22_20) rfl ?_
  show S_ p e below s₁ m 21 #[vi n_, vi p_, vi q_, vi r_, .val (.int ((p_ &&& (255 : Int32)).toUInt32.toUInt16.toUInt32.toInt32)), .val (.int ((q_ &&& (255 : Int32)).toUInt32.toUInt16.toUInt32.toInt32)), u_] [(.int (r_ &&& (255 : Int32)))] t
  refine XS.i2c X0.here hx rfl (hb hby d22_21) rfl ?_
  show S_ p e below s₁ m 22 #[vi n_, vi p_, vi q_, vi r_, .val (.int ((p_ &&& (255 : Int32)).toUInt32.toUInt16.toUInt32.toInt32)), .val (.int ((q_ &&& (255 : Int32)).toUInt32.toUInt16.toUInt32.toInt32)), u_] [(.int ((r_ &&& (255 : Int32)).toUInt32.toUInt16.toUInt32.toInt32))] t
  refine XS.istore X0.here hx rfl (hb hby d22_22) rfl (l' := #[vi n_, vi p_, vi q_, vi r_, .val (.int ((p_ &&& (255 : Int32)).toUInt32.toUInt16.toUInt32.toInt32)), .val (.int ((q_ &&& (255 : Int32)).toUInt32.toUInt16.toUInt32.toInt32)), .val (.int ((r_ &&& (255 : Int32)).toUInt32.toUInt16.toUInt32.toInt32))]) rfl ?_
  show S_ p e below s₁ m 24 #[vi n_, vi p_, vi q_, vi r_, .val (.int ((p_ &&& (255 : Int32)).toUInt32.toUInt16.toUInt32.toInt32)), .val (.int ((q_ &&& (255 : Int32)).toUInt32.toUInt16.toUInt32.toInt32)), .val (.int ((r_ &&& (255 : Int32)).toUInt32.toUInt16.toUInt32.toInt32))] [] t
  refine XS.iloadN X0.here hx rfl (hb hby d22_24) rfl ?_
  exact k
 by_cases hc2 : n_ = (0 : Int32)
 ·have c3 : Kt p e below s₁ st0 (mkF m 28 #[vi n_, vi p_, vi q_, vi r_, .val (.int ((p_ &&& (255 : Int32)).toUInt32.toUInt16.toUInt32.toInt32)), .val (.int ((q_ &&& (255 : Int32)).toUInt32.toUInt16.toUInt32.toInt32)), .val (.int ((r_ &&& (255 : Int32)).toUInt32.toUInt16.toUInt32.toInt32))] []) := fun t k => by
   refine c1 t ?_
   show S_ p e below s₁ m 25 #[vi n_, vi p_, vi q_, vi r_, .val (.int ((p_ &&& (255 : Int32)).toUInt32.toUInt16.toUInt32.toInt32)), .val (.int ((q_ &&& (255 : Int32)).toUInt32.toUInt16.toUInt32.toInt32)), .val (.int ((r_ &&& (255 : Int32)).toUInt32.toUInt16.toUInt32.toInt32))] [(.int n_)] t
   refine XS.ifNo X0.here hx rfl (hb hby d22_25) rfl ((if0 _ _).trans (teq hc2).2) ?_
   exact k
  obtain ⟨b4, T4, h4, z4, g4, X4, e4, E4, o5, A4, D4, U4, c4⟩ := knew X0 hx hZ hown (w4 hw) (w5 hw) (w6 hw) e0 c3 rfl (hb hby d22_28) (by decide) (by decide) O0
  have kp6 := kp0.ext E4
  have z7 := Nat.le_trans kp0.1 z4
  have c8 : Kt p e below T4 st0 (mkF m 33 #[vi n_, vi p_, vi q_, vi r_, .val (.int ((p_ &&& (255 : Int32)).toUInt32.toUInt16.toUInt32.toInt32)), .val (.int ((q_ &&& (255 : Int32)).toUInt32.toUInt16.toUInt32.toInt32)), .val (.int ((r_ &&& (255 : Int32)).toUInt32.toUInt16.toUInt32.toInt32))] [(ii 0), (rr b4), (rr b4)]) := fun t k => by
   refine c4 t ?_
   show S_ p e below T4 m 31 #[vi n_, vi p_, vi q_, vi r_, .val (.int ((p_ &&& (255 : Int32)).toUInt32.toUInt16.toUInt32.toInt32)), .val (.int ((q_ &&& (255 : Int32)).toUInt32.toUInt16.toUInt32.toInt32)), .val (.int ((r_ &&& (255 : Int32)).toUInt32.toUInt16.toUInt32.toInt32))] [(rr b4)] t
   refine XS.dup X4.here hx rfl (hb hby d22_31) rfl rfl ?_
   show S_ p e below T4 m 32 #[vi n_, vi p_, vi q_, vi r_, .val (.int ((p_ &&& (255 : Int32)).toUInt32.toUInt16.toUInt32.toInt32)), .val (.int ((q_ &&& (255 : Int32)).toUInt32.toUInt16.toUInt32.toInt32)), .val (.int ((r_ &&& (255 : Int32)).toUInt32.toUInt16.toUInt32.toInt32))] [(rr b4), (rr b4)] t
   refine XS.iconst X4.here hx rfl (hb hby d22_32) ?_
   exact k
  obtain ⟨b9, T9, h9, k9, z9, g9, X9, e9, E9, o10, A9, c9⟩ := knewP (aty := .char) X4 hx hZ (w7 hw) e4 c8 rfl (hb hby d22_33) rfl (by decide) 0 (by decide) (by decide) (by decide) (by decide) o5
  have kp12 := kp6.ext E9
  have z13 := Nat.le_trans kp6.1 z9
  have f11 : Arv Z h9 b9 k9 .char (0 : Int32) [] (ii 0) := A9
  have f14 := (show Fld Z h4 b4 nm1 "value" "[B" .null from D4 (Or.inr (w20 hw)) (ty := (.array .byte)) (by decide)).ext E9
  have f15 := (show Fld Z h4 b4 nm1 "coder" "B" (ii 0) from D4 (Or.inr (w21 hw)) (ty := .byte) (by decide)).ext E9
  obtain ⟨_, T16, L16, X16, hQ16, hS16, hZ16, hown16, c16⟩ := kspecB X9 hx hZ hown hS0 (Nat.le_trans (Nat.zero_le _) (Nat.le_trans E4.1 E9.1)) (w8 hw) (w9 hw) (w10 hw) (rm := ({ frames := 2, cells := 2, slots := 4, locals := 29 } : Room)) (backOfSI (W := 1) (rm_str1_0 l Z a0 hw [] b4 b9 k9 h9 n0 o10 (A4.ext E9) f14 f15 g4 f11 hlit_ hcw) hZ hI (w10 hw) (w6 hw) (by decide) (by decide)) e9 c9 hml pd_pACrV b4 [(rr b9)] [(rr b4)] (hb hby d22_35) rfl rfl rfl rfl rfl rfl
  obtain ⟨rfl, N17q, K18, p19, p20, b21, k22, p23, p24⟩ := hQ16
  have N17 := Fr.app N0 N17q
  have o25 := o10.keep K18 (allS g4 all0)
  have kp26 := kp12.trans K18 (allS (Or.inr z7) all0)
  obtain ⟨fs, hr, hrun, hended, hRW⟩ := X16.leaveW hS16 (by first | exact (Nat.le_refl _) | (rw [rfl]; exact (Nat.le_refl _))) (v := some (rr b4)) (fun h => by rw [Bd.returns] at h; cases h)
  refine ⟨_, _, c16 _ ?_, hrun, hended, _, _, rfl, ?_, hRW.1, hRW.2.1, hRW.2.2.1, hRW.2.2.2.mono (by decide) (by decide)⟩
  ·show S_ p e below T16 m 38 #[vi n_, vi p_, vi q_, vi r_, .val (.int ((p_ &&& (255 : Int32)).toUInt32.toUInt16.toUInt32.toInt32)), .val (.int ((q_ &&& (255 : Int32)).toUInt32.toUInt16.toUInt32.toInt32)), .val (.int ((r_ &&& (255 : Int32)).toUInt32.toUInt16.toUInt32.toInt32))] [(rr b4)] _
   exact retOut X16 hx Bd.returns rfl (Or.inr (Or.inr (Or.inr (Or.inr ⟨rfl, rfl, rfl⟩)))) (hb hby d22_38) hr
  ·show Q_draw Z n_ p_ q_ r_ z_ h0 n0 _ T16.heap _
   exact ⟨b4, rfl, N17, kp26, p19, g4, z7⟩
 ·have c27 : Kt p e below s₁ st0 (mkF m 41 #[vi n_, vi p_, vi q_, vi r_, .val (.int ((p_ &&& (255 : Int32)).toUInt32.toUInt16.toUInt32.toInt32)), .val (.int ((q_ &&& (255 : Int32)).toUInt32.toUInt16.toUInt32.toInt32)), .val (.int ((r_ &&& (255 : Int32)).toUInt32.toUInt16.toUInt32.toInt32))] [(ii 1), (.int n_)]) := fun t k => by
   refine c1 t ?_
   show S_ p e below s₁ m 25 #[vi n_, vi p_, vi q_, vi r_, .val (.int ((p_ &&& (255 : Int32)).toUInt32.toUInt16.toUInt32.toInt32)), .val (.int ((q_ &&& (255 : Int32)).toUInt32.toUInt16.toUInt32.toInt32)), .val (.int ((r_ &&& (255 : Int32)).toUInt32.toUInt16.toUInt32.toInt32))] [(.int n_)] t
   refine yI X0.here hx rfl 25 39 rfl (hb hby d22_25) rfl ((if0 _ _).trans (feq hc2).2) ?_
   show S_ p e below s₁ m 39 #[vi n_, vi p_, vi q_, vi r_, .val (.int ((p_ &&& (255 : Int32)).toUInt32.toUInt16.toUInt32.toInt32)), .val (.int ((q_ &&& (255 : Int32)).toUInt32.toUInt16.toUInt32.toInt32)), .val (.int ((r_ &&& (255 : Int32)).toUInt32.toUInt16.toUInt32.toInt32))] [] t
   refine XS.iloadN X0.here hx rfl (hb hby d22_39) rfl ?_
   show S_ p e below s₁ m 40 #[vi n_, vi p_, vi q_, vi r_, .val (.int ((p_ &&& (255 : Int32)).toUInt32.toUInt16.toUInt32.toInt32)), .val (.int ((q_ &&& (255 : Int32)).toUInt32.toUInt16.toUInt32.toInt32)), .val (.int ((r_ &&& (255 : Int32)).toUInt32.toUInt16.toUInt32.toInt32))] [(.int n_)] t
   refine XS.iconst X0.here hx rfl (hb hby d22_40) ?_
   exact k
  by_cases hc28 : n_ = (1 : Int32)
  ·have c29 : Kt p e below s₁ st0 (mkF m 44 #[vi n_, vi p_, vi q_, vi r_, .val (.int ((p_ &&& (255 : Int32)).toUInt32.toUInt16.toUInt32.toInt32)), .val (.int ((q_ &&& (255 : Int32)).toUInt32.toUInt16.toUInt32.toInt32)), .val (.int ((r_ &&& (255 : Int32)).toUInt32.toUInt16.toUInt32.toInt32))] []) := fun t k => by
    refine c27 t ?_
    show S_ p e below s₁ m 41 #[vi n_, vi p_, vi q_, vi r_, .val (.int ((p_ &&& (255 : Int32)).toUInt32.toUInt16.toUInt32.toInt32)), .val (.int ((q_ &&& (255 : Int32)).toUInt32.toUInt16.toUInt32.toInt32)), .val (.int ((r_ &&& (255 : Int32)).toUInt32.toUInt16.toUInt32.toInt32))] [(ii 1), (.int n_)] t
    refine XS.icmpNo X0.here hx rfl (hb hby d22_41) rfl (teq hc28).2 ?_
    exact k
   obtain ⟨b30, T30, h30, z30, g30, X30, e30, E30, o31, A30, D30, U30, c30⟩ := knew X0 hx hZ hown (w4 hw) (w5 hw) (w6 hw) e0 c29 rfl (hb hby d22_44) (by decide) (by decide) O0
   have kp32 := kp0.ext E30
   have z33 := Nat.le_trans kp0.1 z30
   have c34 : Kt p e below T30 st0 (mkF m 49 #[vi n_, vi p_, vi q_, vi r_, .val (.int ((p_ &&& (255 : Int32)).toUInt32.toUInt16.toUInt32.toInt32)), .val (.int ((q_ &&& (255 : Int32)).toUInt32.toUInt16.toUInt32.toInt32)), .val (.int ((r_ &&& (255 : Int32)).toUInt32.toUInt16.toUInt32.toInt32))] [(ii 1), (rr b30), (rr b30)]) := fun t k => by
    refine c30 t ?_
    show S_ p e below T30 m 47 #[vi n_, vi p_, vi q_, vi r_, .val (.int ((p_ &&& (255 : Int32)).toUInt32.toUInt16.toUInt32.toInt32)), .val (.int ((q_ &&& (255 : Int32)).toUInt32.toUInt16.toUInt32.toInt32)), .val (.int ((r_ &&& (255 : Int32)).toUInt32.toUInt16.toUInt32.toInt32))] [(rr b30)] t
    refine XS.dup X30.here hx rfl (hb hby d22_47) rfl rfl ?_
    show S_ p e below T30 m 48 #[vi n_, vi p_, vi q_, vi r_, .val (.int ((p_ &&& (255 : Int32)).toUInt32.toUInt16.toUInt32.toInt32)), .val (.int ((q_ &&& (255 : Int32)).toUInt32.toUInt16.toUInt32.toInt32)), .val (.int ((r_ &&& (255 : Int32)).toUInt32.toUInt16.toUInt32.toInt32))] [(rr b30), (rr b30)] t
    refine XS.iconst X30.here hx rfl (hb hby d22_48) ?_
    exact k
   obtain ⟨b35, T35, h35, k35, z35, g35, X35, e35, E35, o36, A35, c35⟩ := knewP (aty := .char) X30 hx hZ (w7 hw) e30 c34 rfl (hb hby d22_49) rfl (by decide) 1 (by decide) (by decide) (by decide) (by decide) o31
   have kp38 := kp32.ext E35
   have z39 := Nat.le_trans kp32.1 z35
   have f37 : Arv Z h35 b35 k35 .char (1 : Int32) [(ii 0)] (ii 0) := A35.pad (pad_rep [] (ii 0) 1)
   have c40 : Kt p e below T35 st0 (mkF m 55 #[vi n_, vi p_, vi q_, vi r_, .val (.int ((p_ &&& (255 : Int32)).toUInt32.toUInt16.toUInt32.toInt32)), .val (.int ((q_ &&& (255 : Int32)).toUInt32.toUInt16.toUInt32.toInt32)), .val (.int ((r_ &&& (255 : Int32)).toUInt32.toUInt16.toUInt32.toInt32))] [(.int ((p_ &&& (255 : Int32)).toUInt32.toUInt16.toUInt32.toInt32)), (ii 0), (rr b35), (rr b35), (rr b30), (rr b30)]) := fun t k => by
    refine c35 t ?_
    show S_ p e below T35 m 51 #[vi n_, vi p_, vi q_, vi r_, .val (.int ((p_ &&& (255 : Int32)).toUInt32.toUInt16.toUInt32.toInt32)), .val (.int ((q_ &&& (255 : Int32)).toUInt32.toUInt16.toUInt32.toInt32)), .val (.int ((r_ &&& (255 : Int32)).toUInt32.toUInt16.toUInt32.toInt32))] [(rr b35), (rr b30), (rr b30)] t
    refine XS.dup X35.here hx rfl (hb hby d22_51) rfl rfl ?_
    show S_ p e below T35 m 52 #[vi n_, vi p_, vi q_, vi r_, .val (.int ((p_ &&& (255 : Int32)).toUInt32.toUInt16.toUInt32.toInt32)), .val (.int ((q_ &&& (255 : Int32)).toUInt32.toUInt16.toUInt32.toInt32)), .val (.int ((r_ &&& (255 : Int32)).toUInt32.toUInt16.toUInt32.toInt32))] [(rr b35), (rr b35), (rr b30), (rr b30)] t
    refine XS.iconst X35.here hx rfl (hb hby d22_52) ?_
    show S_ p e below T35 m 53 #[vi n_, vi p_, vi q_, vi r_, .val (.int ((p_ &&& (255 : Int32)).toUInt32.toUInt16.toUInt32.toInt32)), .val (.int ((q_ &&& (255 : Int32)).toUInt32.toUInt16.toUInt32.toInt32)), .val (.int ((r_ &&& (255 : Int32)).toUInt32.toUInt16.toUInt32.toInt32))] [(ii 0), (rr b35), (rr b35), (rr b30), (rr b30)] t
    refine XS.iload X35.here hx rfl (hb hby d22_53) rfl ?_
    exact k
   obtain ⟨T41, h41, X41, e41, W41, f44, o42, N43, c41⟩ := kstC X35 hx hZ e35 f37 (j := (0 : Int32)) (by decide) (by decide) 0 rfl (Nat.le_of_ble_eq_true rfl) c40 rfl rfl (hb hby d22_55) o36 N0 g35
   have f45 : Arv Z h41 b35 k35 .char (1 : Int32) [(.int (nar .char ((p_ &&& (255 : Int32)).toUInt32.toUInt16.toUInt32.toInt32)))] (ii 0) := f44
   have kp46 := kp38.wr W41 (Or.inr z39)
   have q47 := Nat.ne_of_lt (Nat.lt_of_lt_of_le A30.lt z35)
   have f48 := ((show Fld Z h30 b30 nm1 "value" "[B" .null from D30 (Or.inr (w20 hw)) (ty := (.array .byte)) (by decide)).ext E35).other W41 (Or.inl q47)
   have f49 := ((show Fld Z h30 b30 nm1 "coder" "B" (ii 0) from D30 (Or.inr (w21 hw)) (ty := .byte) (by decide)).ext E35).other W41 (Or.inl q47)
   obtain ⟨_, T50, L50, X50, hQ50, c50⟩ := kspec X41 hx hZ hown (w8 hw) (w9 hw) (w6 hw) (w10 hw) (rm_str1_1 l Z a0 hw [] b30 b35 k35 z_ ((nar .char ((p_ &&& (255 : Int32)).toUInt32.toUInt16.toUInt32.toInt32))) h41 n0 o42 ((A30.ext E35).wr W41) f48 f49 g30 f45 ZS0_ hz_ (own_small _)) e41 c41 hml pd_pACrV b30 [(rr b35)] [(rr b30)] 1 (hb hby d22_56) rfl rfl rfl rfl rfl rfl
   obtain ⟨rfl, N51q, K52, p53, p54, b55, k56, p57, p58, p59, p60⟩ := hQ50
   have N51 := Fr.app N43 N51q
   have o61 := o42.keep K52 (allS g30 all0)
   have kp62 := kp46.trans K52 (allS (Or.inr z33) all0)
   have z63 := Nat.le_trans kp46.1 p60
   have g64 := Nat.le_trans (Nat.le_trans (Nat.le_of_eq o42.1.symm) o42.2.1) p60
   obtain ⟨fs, hr, hrun, hended, hRW⟩ := X50.leaveW hS0 (by first | exact (Nat.le_trans (Nat.zero_le _) (Nat.le_trans (Nat.le_trans (Nat.le_trans E30.1 E35.1) (Keep.of_wr W41).1) K52.1)) | (rw [rfl]; exact (Nat.le_trans (Nat.zero_le _) (Nat.le_trans (Nat.le_trans (Nat.le_trans E30.1 E35.1) (Keep.of_wr W41).1) K52.1)))) (v := some (rr b30)) (fun h => by rw [Bd.returns] at h; cases h)
   refine ⟨_, _, c50 _ ?_, hrun, hended, _, _, rfl, ?_, hRW.1, hRW.2.1, hRW.2.2.1, hRW.2.2.2.mono (by decide) (by decide)⟩
   ·show S_ p e below T50 m 59 #[vi n_, vi p_, vi q_, vi r_, .val (.int ((p_ &&& (255 : Int32)).toUInt32.toUInt16.toUInt32.toInt32)), .val (.int ((q_ &&& (255 : Int32)).toUInt32.toUInt16.toUInt32.toInt32)), .val (.int ((r_ &&& (255 : Int32)).toUInt32.toUInt16.toUInt32.toInt32))] [(rr b30)] _
    exact retOut X50 hx Bd.returns rfl (Or.inr (Or.inr (Or.inr (Or.inr ⟨rfl, rfl, rfl⟩)))) (hb hby d22_59) hr
   ·show Q_draw Z n_ p_ q_ r_ z_ h0 n0 _ T50.heap _
    exact ⟨b30, rfl, N51, kp62, p53, g30, z33⟩
  ·have c65 : Kt p e below s₁ st0 (mkF m 62 #[vi n_, vi p_, vi q_, vi r_, .val (.int ((p_ &&& (255 : Int32)).toUInt32.toUInt16.toUInt32.toInt32)), .val (.int ((q_ &&& (255 : Int32)).toUInt32.toUInt16.toUInt32.toInt32)), .val (.int ((r_ &&& (255 : Int32)).toUInt32.toUInt16.toUInt32.toInt32))] [(ii 2), (.int n_)]) := fun t k => by
    refine c27 t ?_
    show S_ p e below s₁ m 41 #[vi n_, vi p_, vi q_, vi r_, .val (.int ((p_ &&& (255 : Int32)).toUInt32.toUInt16.toUInt32.toInt32)), .val (.int ((q_ &&& (255 : Int32)).toUInt32.toUInt16.toUInt32.toInt32)), .val (.int ((r_ &&& (255 : Int32)).toUInt32.toUInt16.toUInt32.toInt32))] [(ii 1), (.int n_)] t
    refine yC X0.here hx rfl 41 60 rfl (hb hby d22_41) rfl (feq hc28).2 ?_
    show S_ p e below s₁ m 60 #[vi n_, vi p_, vi q_, vi r_, .val (.int ((p_ &&& (255 : Int32)).toUInt32.toUInt16.toUInt32.toInt32)), .val (.int ((q_ &&& (255 : Int32)).toUInt32.toUInt16.toUInt32.toInt32)), .val (.int ((r_ &&& (255 : Int32)).toUInt32.toUInt16.toUInt32.toInt32))] [] t
    refine XS.iloadN X0.here hx rfl (hb hby d22_60) rfl ?_
    show S_ p e below s₁ m 61 #[vi n_, vi p_, vi q_, vi r_, .val (.int ((p_ &&& (255 : Int32)).toUInt32.toUInt16.toUInt32.toInt32)), .val (.int ((q_ &&& (255 : Int32)).toUInt32.toUInt16.toUInt32.toInt32)), .val (.int ((r_ &&& (255 : Int32)).toUInt32.toUInt16.toUInt32.toInt32))] [(.int n_)] t
    refine XS.iconst X0.here hx rfl (hb hby d22_61) ?_
    exact k
   by_cases hc66 : n_ = (2 : Int32)
   ·have c67 : Kt p e below s₁ st0 (mkF m 65 #[vi n_, vi p_, vi q_, vi r_, .val (.int ((p_ &&& (255 : Int32)).toUInt32.toUInt16.toUInt32.toInt32)), .val (.int ((q_ &&& (255 : Int32)).toUInt32.toUInt16.toUInt32.toInt32)), .val (.int ((r_ &&& (255 : Int32)).toUInt32.toUInt16.toUInt32.toInt32))] []) := fun t k => by
     refine c65 t ?_
     show S_ p e below s₁ m 62 #[vi n_, vi p_, vi q_, vi r_, .val (.int ((p_ &&& (255 : Int32)).toUInt32.toUInt16.toUInt32.toInt32)), .val (.int ((q_ &&& (255 : Int32)).toUInt32.toUInt16.toUInt32.toInt32)), .val (.int ((r_ &&& (255 : Int32)).toUInt32.toUInt16.toUInt32.toInt32))] [(ii 2), (.int n_)] t
     refine XS.icmpNo X0.here hx rfl (hb hby d22_62) rfl (teq hc66).2 ?_
     exact k
    obtain ⟨b68, T68, h68, z68, g68, X68, e68, E68, o69, A68, D68, U68, c68⟩ := knew X0 hx hZ hown (w4 hw) (w5 hw) (w6 hw) e0 c67 rfl (hb hby d22_65) (by decide) (by decide) O0
    have kp70 := kp0.ext E68
    have z71 := Nat.le_trans kp0.1 z68
    have c72 : Kt p e below T68 st0 (mkF m 70 #[vi n_, vi p_, vi q_, vi r_, .val (.int ((p_ &&& (255 : Int32)).toUInt32.toUInt16.toUInt32.toInt32)), .val (.int ((q_ &&& (255 : Int32)).toUInt32.toUInt16.toUInt32.toInt32)), .val (.int ((r_ &&& (255 : Int32)).toUInt32.toUInt16.toUInt32.toInt32))] [(ii 2), (rr b68), (rr b68)]) := fun t k => by
     refine c68 t ?_
     show S_ p e below T68 m 68 #[vi n_, vi p_, vi q_, vi r_, .val (.int ((p_ &&& (255 : Int32)).toUInt32.toUInt16.toUInt32.toInt32)), .val (.int ((q_ &&& (255 : Int32)).toUInt32.toUInt16.toUInt32.toInt32)), .val (.int ((r_ &&& (255 : Int32)).toUInt32.toUInt16.toUInt32.toInt32))] [(rr b68)] t
     refine XS.dup X68.here hx rfl (hb hby d22_68) rfl rfl ?_
     show S_ p e below T68 m 69 #[vi n_, vi p_, vi q_, vi r_, .val (.int ((p_ &&& (255 : Int32)).toUInt32.toUInt16.toUInt32.toInt32)), .val (.int ((q_ &&& (255 : Int32)).toUInt32.toUInt16.toUInt32.toInt32)), .val (.int ((r_ &&& (255 : Int32)).toUInt32.toUInt16.toUInt32.toInt32))] [(rr b68), (rr b68)] t
     refine XS.iconst X68.here hx rfl (hb hby d22_69) ?_
     exact k
    obtain ⟨b73, T73, h73, k73, z73, g73, X73, e73, E73, o74, A73, c73⟩ := knewP (aty := .char) X68 hx hZ (w7 hw) e68 c72 rfl (hb hby d22_70) rfl (by decide) 2 (by decide) (by decide) (by decide) (by decide) o69
    have kp76 := kp70.ext E73
    have z77 := Nat.le_trans kp70.1 z73
    have f75 : Arv Z h73 b73 k73 .char (2 : Int32) [(ii 0), (ii 0)] (ii 0) := A73.pad (pad_rep [] (ii 0) 2)
    have c78 : Kt p e below T73 st0 (mkF m 76 #[vi n_, vi p_, vi q_, vi r_, .val (.int ((p_ &&& (255 : Int32)).toUInt32.toUInt16.toUInt32.toInt32)), .val (.int ((q_ &&& (255 : Int32)).toUInt32.toUInt16.toUInt32.toInt32)), .val (.int ((r_ &&& (255 : Int32)).toUInt32.toUInt16.toUInt32.toInt32))] [(.int ((p_ &&& (255 : Int32)).toUInt32.toUInt16.toUInt32.toInt32)), (ii 0), (rr b73), (rr b73), (rr b68), (rr b68)]) := fun t k => by
     refine c73 t ?_
     show S_ p e below T73 m 72 #[vi n_, vi p_, vi q_, vi r_, .val (.int ((p_ &&& (255 : Int32)).toUInt32.toUInt16.toUInt32.toInt32)), .val (.int ((q_ &&& (255 : Int32)).toUInt32.toUInt16.toUInt32.toInt32)), .val (.int ((r_ &&& (255 : Int32)).toUInt32.toUInt16.toUInt32.toInt32))] [(rr b73), (rr b68), (rr b68)] t
     refine XS.dup X73.here hx rfl (hb hby d22_72) rfl rfl ?_
     show S_ p e below T73 m 73 #[vi n_, vi p_, vi q_, vi r_, .val (.int ((p_ &&& (255 : Int32)).toUInt32.toUInt16.toUInt32.toInt32)), .val (.int ((q_ &&& (255 : Int32)).toUInt32.toUInt16.toUInt32.toInt32)), .val (.int ((r_ &&& (255 : Int32)).toUInt32.toUInt16.toUInt32.toInt32))] [(rr b73), (rr b73), (rr b68), (rr b68)] t
     refine XS.iconst X73.here hx rfl (hb hby d22_73) ?_
     show S_ p e below T73 m 74 #[vi n_, vi p_, vi q_, vi r_, .val (.int ((p_ &&& (255 : Int32)).toUInt32.toUInt16.toUInt32.toInt32)), .val (.int ((q_ &&& (255 : Int32)).toUInt32.toUInt16.toUInt32.toInt32)), .val (.int ((r_ &&& (255 : Int32)).toUInt32.toUInt16.toUInt32.toInt32))] [(ii 0), (rr b73), (rr b73), (rr b68), (rr b68)] t
     refine XS.iload X73.here hx rfl (hb hby d22_74) rfl ?_
     exact k
    obtain ⟨T79, h79, X79, e79, W79, f82, o80, N81, c79⟩ := kstC X73 hx hZ e73 f75 (j := (0 : Int32)) (by decide) (by decide) 0 rfl (Nat.le_of_ble_eq_true rfl) c78 rfl rfl (hb hby d22_76) o74 N0 g73
    have f83 : Arv Z h79 b73 k73 .char (2 : Int32) [(.int (nar .char ((p_ &&& (255 : Int32)).toUInt32.toUInt16.toUInt32.toInt32))), (ii 0)] (ii 0) := f82
    have kp84 := kp76.wr W79 (Or.inr z77)
    have c85 : Kt p e below T79 st0 (mkF m 81 #[vi n_, vi p_, vi q_, vi r_, .val (.int ((p_ &&& (255 : Int32)).toUInt32.toUInt16.toUInt32.toInt32)), .val (.int ((q_ &&& (255 : Int32)).toUInt32.toUInt16.toUInt32.toInt32)), .val (.int ((r_ &&& (255 : Int32)).toUInt32.toUInt16.toUInt32.toInt32))] [(.int ((q_ &&& (255 : Int32)).toUInt32.toUInt16.toUInt32.toInt32)), (ii 1), (rr b73), (rr b73), (rr b68), (rr b68)]) := fun t k => by
     refine c79 t ?_
     show S_ p e below T79 m 77 #[vi n_, vi p_, vi q_, vi r_, .val (.int ((p_ &&& (255 : Int32)).toUInt32.toUInt16.toUInt32.toInt32)), .val (.int ((q_ &&& (255 : Int32)).toUInt32.toUInt16.toUInt32.toInt32)), .val (.int ((r_ &&& (255 : Int32)).toUInt32.toUInt16.toUInt32.toInt32))] [(rr b73), (rr b68), (rr b68)] t
     refine XS.dup X79.here hx rfl (hb hby d22_77) rfl rfl ?_
     show S_ p e below T79 m 78 #[vi n_, vi p_, vi q_, vi r_, .val (.int ((p_ &&& (255 : Int32)).toUInt32.toUInt16.toUInt32.toInt32)), .val (.int ((q_ &&& (255 : Int32)).toUInt32.toUInt16.toUInt32.toInt32)), .val (.int ((r_ &&& (255 : Int32)).toUInt32.toUInt16.toUInt32.toInt32))] [(rr b73), (rr b73), (rr b68), (rr b68)] t
     refine XS.iconst X79.here hx rfl (hb hby d22_78) ?_
     show S_ p e below T79 m 79 #[vi n_, vi p_, vi q_, vi r_, .val (.int ((p_ &&& (255 : Int32)).toUInt32.toUInt16.toUInt32.toInt32)), .val (.int ((q_ &&& (255 : Int32)).toUInt32.toUInt16.toUInt32.toInt32)), .val (.int ((r_ &&& (255 : Int32)).toUInt32.toUInt16.toUInt32.toInt32))] [(ii 1), (rr b73), (rr b73), (rr b68), (rr b68)] t
     refine XS.iload X79.here hx rfl (hb hby d22_79) rfl ?_
     exact k
    obtain ⟨T86, h86, X86, e86, W86, f89, o87, N88, c86⟩ := kstC X79 hx hZ e79 f83 (j := (1 : Int32)) (by decide) (by decide) 1 rfl (Nat.le_of_ble_eq_true rfl) c85 rfl rfl (hb hby d22_81) o80 N81 g73
    have f90 : Arv Z h86 b73 k73 .char (2 : Int32) [(.int (nar .char ((p_ &&& (255 : Int32)).toUInt32.toUInt16.toUInt32.toInt32))), (.int (nar .char ((q_ &&& (255 : Int32)).toUInt32.toUInt16.toUInt32.toInt32)))] (ii 0) := f89
    have kp91 := kp84.wr W86 (Or.inr z77)
    have q92 := Nat.ne_of_lt (Nat.lt_of_lt_of_le A68.lt z73)
    have f93 := (((show Fld Z h68 b68 nm1 "value" "[B" .null from D68 (Or.inr (w20 hw)) (ty := (.array .byte)) (by decide)).ext E73).other W79 (Or.inl q92)).other W86 (Or.inl q92)
    have f94 := (((show Fld Z h68 b68 nm1 "coder" "B" (ii 0) from D68 (Or.inr (w21 hw)) (ty := .byte) (by decide)).ext E73).other W79 (Or.inl q92)).other W86 (Or.inl q92)
    obtain ⟨_, T95, L95, X95, hQ95, c95⟩ := kspec X86 hx hZ hown (w8 hw) (w9 hw) (w6 hw) (w10 hw) (rm_str1_2 l Z a0 hw [] b68 b73 k73 z_ ((nar .char ((p_ &&& (255 : Int32)).toUInt32.toUInt16.toUInt32.toInt32))) ((nar .char ((q_ &&& (255 : Int32)).toUInt32.toUInt16.toUInt32.toInt32))) h86 n0 o87 (((A68.ext E73).wr W79).wr W86) f93 f94 g68 f90 ZS0_ hz_ (own_small _) (own_small _)) e86 c86 hml pd_pACrV b68 [(rr b73)] [(rr b68)] 1 (hb hby d22_82) rfl rfl rfl rfl rfl rfl
    obtain ⟨rfl, N96q, K97, p98, p99, b100, k101, p102, p103, p104, p105⟩ := hQ95
    have N96 := Fr.app N88 N96q
    have o106 := o87.keep K97 (allS g68 all0)
    have kp107 := kp91.trans K97 (allS (Or.inr z71) all0)
    have z108 := Nat.le_trans kp91.1 p105
    have g109 := Nat.le_trans (Nat.le_trans (Nat.le_of_eq o87.1.symm) o87.2.1) p105
    obtain ⟨fs, hr, hrun, hended, hRW⟩ := X95.leaveW hS0 (by first | exact (Nat.le_trans (Nat.zero_le _) (Nat.le_trans (Nat.le_trans (Nat.le_trans (Nat.le_trans E68.1 E73.1) (Keep.of_wr W79).1) (Keep.of_wr W86).1) K97.1)) | (rw [rfl]; exact (Nat.le_trans (Nat.zero_le _) (Nat.le_trans (Nat.le_trans (Nat.le_trans (Nat.le_trans E68.1 E73.1) (Keep.of_wr W79).1) (Keep.of_wr W86).1) K97.1)))) (v := some (rr b68)) (fun h => by rw [Bd.returns] at h; cases h)
    refine ⟨_, _, c95 _ ?_, hrun, hended, _, _, rfl, ?_, hRW.1, hRW.2.1, hRW.2.2.1, hRW.2.2.2.mono (by decide) (by decide)⟩
    ·show S_ p e below T95 m 85 #[vi n_, vi p_, vi q_, vi r_, .val (.int ((p_ &&& (255 : Int32)).toUInt32.toUInt16.toUInt32.toInt32)), .val (.int ((q_ &&& (255 : Int32)).toUInt32.toUInt16.toUInt32.toInt32)), .val (.int ((r_ &&& (255 : Int32)).toUInt32.toUInt16.toUInt32.toInt32))] [(rr b68)] _
     exact retOut X95 hx Bd.returns rfl (Or.inr (Or.inr (Or.inr (Or.inr ⟨rfl, rfl, rfl⟩)))) (hb hby d22_85) hr
    ·show Q_draw Z n_ p_ q_ r_ z_ h0 n0 _ T95.heap _
     exact ⟨b68, rfl, N96, kp107, p98, g68, z71⟩
   ·have c110 : Kt p e below s₁ st0 (mkF m 86 #[vi n_, vi p_, vi q_, vi r_, .val (.int ((p_ &&& (255 : Int32)).toUInt32.toUInt16.toUInt32.toInt32)), .val (.int ((q_ &&& (255 : Int32)).toUInt32.toUInt16.toUInt32.toInt32)), .val (.int ((r_ &&& (255 : Int32)).toUInt32.toUInt16.toUInt32.toInt32))] []) := fun t k => by
     refine c65 t ?_
     show S_ p e below s₁ m 62 #[vi n_, vi p_, vi q_, vi r_, .val (.int ((p_ &&& (255 : Int32)).toUInt32.toUInt16.toUInt32.toInt32)), .val (.int ((q_ &&& (255 : Int32)).toUInt32.toUInt16.toUInt32.toInt32)), .val (.int ((r_ &&& (255 : Int32)).toUInt32.toUInt16.toUInt32.toInt32))] [(ii 2), (.int n_)] t
     refine yC X0.here hx rfl 62 86 rfl (hb hby d22_62) rfl (feq hc66).2 ?_
     exact k
    obtain ⟨b111, T111, h111, z111, g111, X111, e111, E111, o112, A111, D111, U111, c111⟩ := knew X0 hx hZ hown (w4 hw) (w5 hw) (w6 hw) e0 c110 rfl (hb hby d22_86) (by decide) (by decide) O0
    have kp113 := kp0.ext E111
    have z114 := Nat.le_trans kp0.1 z111
    have c115 : Kt p e below T111 st0 (mkF m 91 #[vi n_, vi p_, vi q_, vi r_, .val (.int ((p_ &&& (255 : Int32)).toUInt32.toUInt16.toUInt32.toInt32)), .val (.int ((q_ &&& (255 : Int32)).toUInt32.toUInt16.toUInt32.toInt32)), .val (.int ((r_ &&& (255 : Int32)).toUInt32.toUInt16.toUInt32.toInt32))] [(ii 3), (rr b111), (rr b111)]) := fun t k => by
     refine c111 t ?_
     show S_ p e below T111 m 89 #[vi n_, vi p_, vi q_, vi r_, .val (.int ((p_ &&& (255 : Int32)).toUInt32.toUInt16.toUInt32.toInt32)), .val (.int ((q_ &&& (255 : Int32)).toUInt32.toUInt16.toUInt32.toInt32)), .val (.int ((r_ &&& (255 : Int32)).toUInt32.toUInt16.toUInt32.toInt32))] [(rr b111)] t
     refine XS.dup X111.here hx rfl (hb hby d22_89) rfl rfl ?_
     show S_ p e below T111 m 90 #[vi n_, vi p_, vi q_, vi r_, .val (.int ((p_ &&& (255 : Int32)).toUInt32.toUInt16.toUInt32.toInt32)), .val (.int ((q_ &&& (255 : Int32)).toUInt32.toUInt16.toUInt32.toInt32)), .val (.int ((r_ &&& (255 : Int32)).toUInt32.toUInt16.toUInt32.toInt32))] [(rr b111), (rr b111)] t
     refine XS.iconst X111.here hx rfl (hb hby d22_90) ?_
     exact k
    obtain ⟨b116, T116, h116, k116, z116, g116, X116, e116, E116, o117, A116, c116⟩ := knewP (aty := .char) X111 hx hZ (w7 hw) e111 c115 rfl (hb hby d22_91) rfl (by decide) 3 (by decide) (by decide) (by decide) (by decide) o112
    have kp119 := kp113.ext E116
    have z120 := Nat.le_trans kp113.1 z116
    have f118 : Arv Z h116 b116 k116 .char (3 : Int32) [(ii 0), (ii 0), (ii 0)] (ii 0) := A116.pad (pad_rep [] (ii 0) 3)
    have c121 : Kt p e below T116 st0 (mkF m 97 #[vi n_, vi p_, vi q_, vi r_, .val (.int ((p_ &&& (255 : Int32)).toUInt32.toUInt16.toUInt32.toInt32)), .val (.int ((q_ &&& (255 : Int32)).toUInt32.toUInt16.toUInt32.toInt32)), .val (.int ((r_ &&& (255 : Int32)).toUInt32.toUInt16.toUInt32.toInt32))] [(.int ((p_ &&& (255 : Int32)).toUInt32.toUInt16.toUInt32.toInt32)), (ii 0), (rr b116), (rr b116), (rr b111), (rr b111)]) := fun t k => by
     refine c116 t ?_
     show S_ p e below T116 m 93 #[vi n_, vi p_, vi q_, vi r_, .val (.int ((p_ &&& (255 : Int32)).toUInt32.toUInt16.toUInt32.toInt32)), .val (.int ((q_ &&& (255 : Int32)).toUInt32.toUInt16.toUInt32.toInt32)), .val (.int ((r_ &&& (255 : Int32)).toUInt32.toUInt16.toUInt32.toInt32))] [(rr b116), (rr b111), (rr b111)] t
     refine XS.dup X116.here hx rfl (hb hby d22_93) rfl rfl ?_
     show S_ p e below T116 m 94 #[vi n_, vi p_, vi q_, vi r_, .val (.int ((p_ &&& (255 : Int32)).toUInt32.toUInt16.toUInt32.toInt32)), .val (.int ((q_ &&& (255 : Int32)).toUInt32.toUInt16.toUInt32.toInt32)), .val (.int ((r_ &&& (255 : Int32)).toUInt32.toUInt16.toUInt32.toInt32))] [(rr b116), (rr b116), (rr b111), (rr b111)] t
     refine XS.iconst X116.here hx rfl (hb hby d22_94) ?_
     show S_ p e below T116 m 95 #[vi n_, vi p_, vi q_, vi r_, .val (.int ((p_ &&& (255 : Int32)).toUInt32.toUInt16.toUInt32.toInt32)), .val (.int ((q_ &&& (255 : Int32)).toUInt32.toUInt16.toUInt32.toInt32)), .val (.int ((r_ &&& (255 : Int32)).toUInt32.toUInt16.toUInt32.toInt32))] [(ii 0), (rr b116), (rr b116), (rr b111), (rr b111)] t
     refine XS.iload X116.here hx rfl (hb hby d22_95) rfl ?_
     exact k
    obtain ⟨T122, h122, X122, e122, W122, f125, o123, N124, c122⟩ := kstC X116 hx hZ e116 f118 (j := (0 : Int32)) (by decide) (by decide) 0 rfl (Nat.le_of_ble_eq_true rfl) c121 rfl rfl (hb hby d22_97) o117 N0 g116
    have f126 : Arv Z h122 b116 k116 .char (3 : Int32) [(.int (nar .char ((p_ &&& (255 : Int32)).toUInt32.toUInt16.toUInt32.toInt32))), (ii 0), (ii 0)] (ii 0) := f125
    have kp127 := kp119.wr W122 (Or.inr z120)
    have c128 : Kt p e below T122 st0 (mkF m 102 #[vi n_, vi p_, vi q_, vi r_, .val (.int ((p_ &&& (255 : Int32)).toUInt32.toUInt16.toUInt32.toInt32)), .val (.int ((q_ &&& (255 : Int32)).toUInt32.toUInt16.toUInt32.toInt32)), .val (.int ((r_ &&& (255 : Int32)).toUInt32.toUInt16.toUInt32.toInt32))] [(.int ((q_ &&& (255 : Int32)).toUInt32.toUInt16.toUInt32.toInt32)), (ii 1), (rr b116), (rr b116), (rr b111), (rr b111)]) := fun t k => by
     refine c122 t ?_
     show S_ p e below T122 m 98 #[vi n_, vi p_, vi q_, vi r_, .val (.int ((p_ &&& (255 : Int32)).toUInt32.toUInt16.toUInt32.toInt32)), .val (.int ((q_ &&& (255 : Int32)).toUInt32.toUInt16.toUInt32.toInt32)), .val (.int ((r_ &&& (255 : Int32)).toUInt32.toUInt16.toUInt32.toInt32))] [(rr b116), (rr b111), (rr b111)] t
     refine XS.dup X122.here hx rfl (hb hby d22_98) rfl rfl ?_
     show S_ p e below T122 m 99 #[vi n_, vi p_, vi q_, vi r_, .val (.int ((p_ &&& (255 : Int32)).toUInt32.toUInt16.toUInt32.toInt32)), .val (.int ((q_ &&& (255 : Int32)).toUInt32.toUInt16.toUInt32.toInt32)), .val (.int ((r_ &&& (255 : Int32)).toUInt32.toUInt16.toUInt32.toInt32))] [(rr b116), (rr b116), (rr b111), (rr b111)] t
     refine XS.iconst X122.here hx rfl (hb hby d22_99) ?_
     show S_ p e below T122 m 100 #[vi n_, vi p_, vi q_, vi r_, .val (.int ((p_ &&& (255 : Int32)).toUInt32.toUInt16.toUInt32.toInt32)), .val (.int ((q_ &&& (255 : Int32)).toUInt32.toUInt16.toUInt32.toInt32)), .val (.int ((r_ &&& (255 : Int32)).toUInt32.toUInt16.toUInt32.toInt32))] [(ii 1), (rr b116), (rr b116), (rr b111), (rr b111)] t
     refine XS.iload X122.here hx rfl (hb hby d22_100) rfl ?_
     exact k
    obtain ⟨T129, h129, X129, e129, W129, f132, o130, N131, c129⟩ := kstC X122 hx hZ e122 f126 (j := (1 : Int32)) (by decide) (by decide) 1 rfl (Nat.le_of_ble_eq_true rfl) c128 rfl rfl (hb hby d22_102) o123 N124 g116
    have f133 : Arv Z h129 b116 k116 .char (3 : Int32) [(.int (nar .char ((p_ &&& (255 : Int32)).toUInt32.toUInt16.toUInt32.toInt32))), (.int (nar .char ((q_ &&& (255 : Int32)).toUInt32.toUInt16.toUInt32.toInt32))), (ii 0)] (ii 0) := f132
    have kp134 := kp127.wr W129 (Or.inr z120)
    have c135 : Kt p e below T129 st0 (mkF m 107 #[vi n_, vi p_, vi q_, vi r_, .val (.int ((p_ &&& (255 : Int32)).toUInt32.toUInt16.toUInt32.toInt32)), .val (.int ((q_ &&& (255 : Int32)).toUInt32.toUInt16.toUInt32.toInt32)), .val (.int ((r_ &&& (255 : Int32)).toUInt32.toUInt16.toUInt32.toInt32))] [(.int ((r_ &&& (255 : Int32)).toUInt32.toUInt16.toUInt32.toInt32)), (ii 2), (rr b116), (rr b116), (rr b111), (rr b111)]) := fun t k => by
     refine c129 t ?_
     show S_ p e below T129 m 103 #[vi n_, vi p_, vi q_, vi r_, .val (.int ((p_ &&& (255 : Int32)).toUInt32.toUInt16.toUInt32.toInt32)), .val (.int ((q_ &&& (255 : Int32)).toUInt32.toUInt16.toUInt32.toInt32)), .val (.int ((r_ &&& (255 : Int32)).toUInt32.toUInt16.toUInt32.toInt32))] [(rr b116), (rr b111), (rr b111)] t
     refine XS.dup X129.here hx rfl (hb hby d22_103) rfl rfl ?_
     show S_ p e below T129 m 104 #[vi n_, vi p_, vi q_, vi r_, .val (.int ((p_ &&& (255 : Int32)).toUInt32.toUInt16.toUInt32.toInt32)), .val (.int ((q_ &&& (255 : Int32)).toUInt32.toUInt16.toUInt32.toInt32)), .val (.int ((r_ &&& (255 : Int32)).toUInt32.toUInt16.toUInt32.toInt32))] [(rr b116), (rr b116), (rr b111), (rr b111)] t
     refine XS.iconst X129.here hx rfl (hb hby d22_104) ?_
     show S_ p e below T129 m 105 #[vi n_, vi p_, vi q_, vi r_, .val (.int ((p_ &&& (255 : Int32)).toUInt32.toUInt16.toUInt32.toInt32)), .val (.int ((q_ &&& (255 : Int32)).toUInt32.toUInt16.toUInt32.toInt32)), .val (.int ((r_ &&& (255 : Int32)).toUInt32.toUInt16.toUInt32.toInt32))] [(ii 2), (rr b116), (rr b116), (rr b111), (rr b111)] t
     refine XS.iload X129.here hx rfl (hb hby d22_105) rfl ?_
     exact k
    obtain ⟨T136, h136, X136, e136, W136, f139, o137, N138, c136⟩ := kstC X129 hx hZ e129 f133 (j := (2 : Int32)) (by decide) (by decide) 2 rfl (Nat.le_of_ble_eq_true rfl) c135 rfl rfl (hb hby d22_107) o130 N131 g116
    have f140 : Arv Z h136 b116 k116 .char (3 : Int32) [(.int (nar .char ((p_ &&& (255 : Int32)).toUInt32.toUInt16.toUInt32.toInt32))), (.int (nar .char ((q_ &&& (255 : Int32)).toUInt32.toUInt16.toUInt32.toInt32))), (.int (nar .char ((r_ &&& (255 : Int32)).toUInt32.toUInt16.toUInt32.toInt32)))] (ii 0) := f139
    have kp141 := kp134.wr W136 (Or.inr z120)
    have q142 := Nat.ne_of_lt (Nat.lt_of_lt_of_le A111.lt z116)
    have f143 := ((((show Fld Z h111 b111 nm1 "value" "[B" .null from D111 (Or.inr (w20 hw)) (ty := (.array .byte)) (by decide)).ext E116).other W122 (Or.inl q142)).other W129 (Or.inl q142)).other W136 (Or.inl q142)
    have f144 := ((((show Fld Z h111 b111 nm1 "coder" "B" (ii 0) from D111 (Or.inr (w21 hw)) (ty := .byte) (by decide)).ext E116).other W122 (Or.inl q142)).other W129 (Or.inl q142)).other W136 (Or.inl q142)
    obtain ⟨_, T145, L145, X145, hQ145, c145⟩ := kspec X136 hx hZ hown (w8 hw) (w9 hw) (w6 hw) (w10 hw) (rm_str1_3 l Z a0 hw [] b111 b116 k116 z_ ((nar .char ((p_ &&& (255 : Int32)).toUInt32.toUInt16.toUInt32.toInt32))) ((nar .char ((q_ &&& (255 : Int32)).toUInt32.toUInt16.toUInt32.toInt32))) ((nar .char ((r_ &&& (255 : Int32)).toUInt32.toUInt16.toUInt32.toInt32))) h136 n0 o137 ((((A111.ext E116).wr W122).wr W129).wr W136) f143 f144 g111 f140 ZS0_ hz_ (own_small _) (own_small _) (own_small _)) e136 c136 hml pd_pACrV b111 [(rr b116)] [(rr b111)] 1 (hb hby d22_108) rfl rfl rfl rfl rfl rfl
    obtain ⟨rfl, N146q, K147, p148, p149, b150, k151, p152, p153, p154, p155⟩ := hQ145
    have N146 := Fr.app N138 N146q
    have o156 := o137.keep K147 (allS g111 all0)
    have kp157 := kp141.trans K147 (allS (Or.inr z114) all0)
    have z158 := Nat.le_trans kp141.1 p155
    have g159 := Nat.le_trans (Nat.le_trans (Nat.le_of_eq o137.1.symm) o137.2.1) p155
    obtain ⟨fs, hr, hrun, hended, hRW⟩ := X145.leaveW hS0 (by first | exact (Nat.le_trans (Nat.zero_le _) (Nat.le_trans (Nat.le_trans (Nat.le_trans (Nat.le_trans (Nat.le_trans E111.1 E116.1) (Keep.of_wr W122).1) (Keep.of_wr W129).1) (Keep.of_wr W136).1) K147.1)) | (rw [rfl]; exact (Nat.le_trans (Nat.zero_le _) (Nat.le_trans (Nat.le_trans (Nat.le_trans (Nat.le_trans (Nat.le_trans E111.1 E116.1) (Keep.of_wr W122).1) (Keep.of_wr W129).1) (Keep.of_wr W136).1) K147.1)))) (v := some (rr b111)) (fun h => by rw [Bd.returns] at h; cases h)
    refine ⟨_, _, c145 _ ?_, hrun, hended, _, _, rfl, ?_, hRW.1, hRW.2.1, hRW.2.2.1, hRW.2.2.2.mono (by decide) (by decide)⟩
    ·show S_ p e below T145 m 111 #[vi n_, vi p_, vi q_, vi r_, .val (.int ((p_ &&& (255 : Int32)).toUInt32.toUInt16.toUInt32.toInt32)), .val (.int ((q_ &&& (255 : Int32)).toUInt32.toUInt16.toUInt32.toInt32)), .val (.int ((r_ &&& (255 : Int32)).toUInt32.toUInt16.toUInt32.toInt32))] [(rr b111)] _
     exact retOut X145 hx Bd.returns rfl (Or.inr (Or.inr (Or.inr (Or.inr ⟨rfl, rfl, rfl⟩)))) (hb hby d22_111) hr
    ·show Q_draw Z n_ p_ q_ r_ z_ h0 n0 _ T145.heap _
     exact ⟨b111, rfl, N146, kp157, p148, g111, z114⟩
theorem own_len {s : State} {args : Array Value} {t : Term} {a : Addr} {cl : Cell} {ty : FieldType} {n : Int32} (ev : t.eval args s none [] s = some (rr a)) (A : Arr s s.heap a cl ty) (h : (Term.length t).eval args s none [] s = some (.int n)) : cl.slots.size < 2 ^ 31 ∧ cl.slots.size.toInt32 = n := by
 have ha : s.arrayAt? a = some cl := A.fin (Vm.Alike.refl _)
 have hl := SBG.length_lt ev ha h
 rw [len_f ev ha hl] at h
 exact ⟨hl, by simpa using h⟩
theorem pd_pIIIIrLjava_lang_String_ : parseMethodDescriptor "(IIII)Ljava/lang/String;" = some ⟨[.int, .int, .int, .int], some (.object nm1)⟩ := by decide +kernel
theorem pd_pLjava_lang_String_rV : parseMethodDescriptor "(Ljava/lang/String;)V" = some ⟨[(.object nm1)], none⟩ := by decide +kernel
theorem pd_prLjava_util_List_ : parseMethodDescriptor "()Ljava/util/List;" = some ⟨[], some (.object nm7)⟩ := by decide +kernel
theorem pd_prI : parseMethodDescriptor "()I" = some ⟨[], some .int⟩ := by decide +kernel
theorem pd_pIrLjava_lang_Object_ : parseMethodDescriptor "(I)Ljava/lang/Object;" = some ⟨[.int], some (.object nm6)⟩ := by decide +kernel
theorem pd_pLportcullis_catalog_Scope_Ljava_lang_String_rZ : parseMethodDescriptor "(Lportcullis/catalog/Scope;Ljava/lang/String;)Z" = some ⟨[(.object nm2), (.object nm1)], some .boolean⟩ := by decide +kernel
theorem ef_law (m : MethodId) (f_ : Int32) (p_ : Int32) (q_ : Int32) (r_ : Int32) : entryFrame m #[(.int f_), (.int p_), (.int q_), (.int r_)] maxLocals = mkF m 0 #[vi f_, vi p_, vi q_, vi r_, u_, u_, u_, u_, u_, u_, u_] [] := by first | (simp [entryFrame, mkF, argsToLocals, Value.category, maxLocals]; done) | rfl
def Q_law (Z : State) (f_ : Int32) (p_ : Int32) (q_ : Int32) (r_ : Int32) (sa3_ : Addr) (sa9_ : Addr) (sa15_ : Addr) (si19_ : Int32) (sv24_ : Value) (h0 : Heap) (n0 : Nat) (v : Option Value) (h : Heap) (L : List Loc) : Prop := v = some (ii 1) ∧ Fr n0 L ∧ Keep h0 h []
set_option maxRecDepth 65536 in
set_option maxHeartbeats 40000000 in
theorem rm_law (l : Launch) (Z : State) (a0 : Array Value) (hw : HW Z a0) (ws : List Jvm.Cond) (f_ : Int32) (p_ : Int32) (q_ : Int32) (r_ : Int32) (sa3_ : Addr) (sa9_ : Addr) (sa15_ : Addr) (si19_ : Int32) (sv24_ : Value) (h0 : Heap) (n0 : Nat) (O0 : Old Z n0 h0) (ZS0_ : Sta Z Z.heap nm2 "COMMON" "Lportcullis/catalog/Scope;" (rr sa3_)) (ZE1_ : Exa Z Z.heap sa3_ nm2) (ZF2_ : Fld Z Z.heap sa3_ nm2 "container" "Ljava/lang/String;" .null) (ZS3_ : Sta Z Z.heap nm9 "EMPTY" nm4 (rr sa9_)) (ZE4_ : Exa Z Z.heap sa9_ nm6) (ZS5_ : Sta Z Z.heap nm9 "$assertionsDisabled" "Z" (ii 1)) (ZS6_ : Sta Z Z.heap nm9 "EMPTY_LIST" "Ljava/util/ImmutableCollections$ListN;" (rr sa15_)) (ZE7_ : Exa Z Z.heap sa15_ "java/util/ImmutableCollections$ListN") (ZS8_ : Sta Z Z.heap nm1 "COMPACT_STRINGS" "Z" (.int si19_)) (sn22_ : ¬ (si19_ = (0 : Int32))) (sv24_r : sv24_.isRef = true) (ZS11_ : Sta Z Z.heap "jdk/internal/util/Preconditions" "SIOOBE_FORMATTER" "Ljava/util/function/BiFunction;" sv24_) (hlit_ : Jvm.Lit.constHeld Z nm1 7) (hcw : Jvm.Lit.compactW.before a0 Z = true) :
  MFI l Z x code maxLocals ret room_1 ws #[(.int f_), (.int p_), (.int q_), (.int r_)] h0 (Q_law Z f_ p_ q_ r_ sa3_ sa9_ sa15_ si19_ sv24_ h0 n0) := by
 refine MetFree.of_bodySF (plainFor_of_name pn_portcullis_catalog_ScopeGrantScopesPinLaw) hisR ?_
 intro p e s m args below meth c s₁ Bd hml0 hP hK
 obtain ⟨rfl, hZ, hh, hI⟩ := hP
 have hx := Bd.exec
 have hby := Bd.bytes
 have hml : c.maxLocals = 11 := hml0
 have hown : s.vm.findClass nm3 = some m.cls := findClass_of_methodNamed Bd.named
 have hnm := (name_of_methodNamed Bd.named Bd.method).1
 have X0 : Stand p l e room_1 (s.setVm s.vm) m #[(.int f_), (.int p_), (.int q_), (.int r_)] below meth c s₁ [] 0 0 := Stand.of_body Bd
 have e0 : s₁.heap = h0 := by rw [← hh, Bd.state]; rfl
 have N0 := Fr.nil n0
 have kp0 : Keep h0 h0 [] := Keep.refl _ _
 have hS0 : s.Since s.vm 0 := (State.WarmedH.refl s).since 0
 have c0 : ∀ t, S_ p e below s₁ m 0 #[vi f_, vi p_, vi q_, vi r_, u_, u_, u_, u_, u_, u_, u_] [] t → Steps p.tables e below (s₁.setTop (entryFrame m #[(.int f_), (.int p_), (.int q_), (.int r_)] maxLocals)) t := fun t k => castTop (ef_law m f_ p_ q_ r_) k
 generalize s₁.setTop (entryFrame m #[(.int f_), (.int p_), (.int q_), (.int r_)] maxLocals) = st0 at c0 ⊢
 replace c0 : Kt p e below s₁ st0 (mkF m 0 #[vi f_, vi p_, vi q_, vi r_, u_, u_, u_, u_, u_, u_, u_] []) := c0
 have c1 : Kt p e below s₁ st0 (mkF m 3 #[vi f_, vi p_, vi q_, vi r_, u_, u_, u_, u_, u_, u_, u_] [(.int (f_ &&& (1 : Int32)))]) := fun t k => by
  refine c0 t ?_
  show S_ p e below s₁ m 0 #[vi f_, vi p_, vi q_, vi r_, u_, u_, u_, u_, u_, u_, u_] [] t
  refine XS.iloadN X0.here hx rfl (hb hby at_0) rfl ?_
  show S_ p e below s₁ m 1 #[vi f_, vi p_, vi q_, vi r_, u_, u_, u_, u_, u_, u_, u_] [(.int f_)] t
  refine XS.iconst X0.here hx rfl (hb hby at_1) ?_
  show S_ p e below s₁ m 2 #[vi f_, vi p_, vi q_, vi r_, u_, u_, u_, u_, u_, u_, u_] [(ii 1), (.int f_)] t
  refine XS.iand X0.here hx rfl (hb hby at_2) rfl ?_
  exact k
 by_cases hc2 : (f_ &&& (1 : Int32)) = (0 : Int32)
 ·have c3 : Kt p e below s₁ st0 (mkF m 34 #[vi f_, vi p_, vi q_, vi r_, vi 0, .val (.int (((f_.toUInt32 >>> ((1 : Int32) &&& 31).toUInt32).toInt32) &&& (3 : Int32))), u_, u_, u_, u_, u_] [(.int r_), (.int q_), (.int p_), (.int (((f_.toUInt32 >>> ((1 : Int32) &&& 31).toUInt32).toInt32) &&& (3 : Int32)))]) := fun t k => by
   refine c1 t ?_
   show S_ p e below s₁ m 3 #[vi f_, vi p_, vi q_, vi r_, u_, u_, u_, u_, u_, u_, u_] [(.int (f_ &&& (1 : Int32)))] t
   refine yI X0.here hx rfl 3 10 rfl (hb hby at_3) rfl ((if0 _ _).trans (teq hc2).1) ?_
   show S_ p e below s₁ m 10 #[vi f_, vi p_, vi q_, vi r_, u_, u_, u_, u_, u_, u_, u_] [] t
   refine XS.iconst X0.here hx rfl (hb hby at_10) ?_
   show S_ p e below s₁ m 11 #[vi f_, vi p_, vi q_, vi r_, u_, u_, u_, u_, u_, u_, u_] [(ii 0)] t
   refine XS.istore X0.here hx rfl (hb hby at_11) rfl (l' := #[vi f_, vi p_, vi q_, vi r_, vi 0, u_, u_, u_, u_, u_, u_]) rfl ?_
   show S_ p e below s₁ m 13 #[vi f_, vi p_, vi q_, vi r_, vi 0, u_, u_, u_, u_, u_, u_] [] t
   refine XS.iloadN X0.here hx rfl (hb hby at_13) rfl ?_
   show S_ p e below s₁ m 14 #[vi f_, vi p_, vi q_, vi r_, vi 0, u_, u_, u_, u_, u_, u_] [(.int f_)] t
   refine XS.iconst X0.here hx rfl (hb hby at_14) ?_
   show S_ p e below s₁ m 15 #[vi f_, vi p_, vi q_, vi r_, vi 0, u_, u_, u_, u_, u_, u_] [(ii 1), (.int f_)] t
   refine XS.iushr X0.here hx rfl (hb hby at_15) rfl ?_
   show S_ p e below s₁ m 16 #[vi f_, vi p_, vi q_, vi r_, vi 0, u_, u_, u_, u_, u_, u_] [(.int ((f_.toUInt32 >>> ((1 : Int32) &&& 31).toUInt32).toInt32))] t
   refine XS.iconst X0.here hx rfl (hb hby at_16) ?_
   show S_ p e below s₁ m 17 #[vi f_, vi p_, vi q_, vi r_, vi 0, u_, u_, u_, u_, u_, u_] [(ii 3), (.int ((f_.toUInt32 >>> ((1 : Int32) &&& 31).toUInt32).toInt32))] t
   refine XS.iand X0.here hx rfl (hb hby at_17) rfl ?_
   show S_ p e below s₁ m 18 #[vi f_, vi p_, vi q_, vi r_, vi 0, u_, u_, u_, u_, u_, u_] [(.int (((f_.toUInt32 >>> ((1 : Int32) &&& 31).toUInt32).toInt32) &&& (3 : Int32)))] t
   refine XS.istore X0.here hx rfl (hb hby at_18) rfl (l' := #[vi f_, vi p_, vi q_, vi r_, vi 0, .val (.int (((f_.toUInt32 >>> ((1 : Int32) &&& 31).toUInt32).toInt32) &&& (3 : Int32))), u_, u_, u_, u_, u_]) rfl ?_
   show S_ p e below s₁ m 20 #[vi f_, vi p_, vi q_, vi r_, vi 0, .val (.int (((f_.toUInt32 >>> ((1 : Int32) &&& 31).toUInt32).toInt32) &&& (3 : Int32))), u_, u_, u_, u_, u_] [] t
   refine XS.iload X0.here hx rfl (hb hby at_20) rfl ?_
   show S_ p e below s₁ m 22 #[vi f_, vi p_, vi q_, vi r_, vi 0, .val (.int (((f_.toUInt32 >>> ((1 : Int32) &&& 31).toUInt32).toInt32) &&& (3 : Int32))), u_, u_, u_, u_, u_] [(ii 0)] t
   refine yI X0.here hx rfl 22 29 rfl (hb hby at_22) rfl rfl ?_
   show S_ p e below s₁ m 29 #[vi f_, vi p_, vi q_, vi r_, vi 0, .val (.int (((f_.toUInt32 >>> ((1 : Int32) &&& 31).toUInt32).toInt32) &&& (3 : Int32))), u_, u_, u_, u_, u_] [] t
   refine XS.iload X0.here hx rfl (hb hby at_29) rfl ?_
   show S_ p e below s₁ m 31 #[vi f_, vi p_, vi q_, vi r_, vi 0, .val (.int (((f_.toUInt32 >>> ((1 : Int32) &&& 31).toUInt32).toInt32) &&& (3 : Int32))), u_, u_, u_, u_, u_] [(.int (((f_.toUInt32 >>> ((1 : Int32) &&& 31).toUInt32).toInt32) &&& (3 : Int32)))] t
   refine XS.iloadN X0.here hx rfl (hb hby at_31) rfl ?_
   show S_ p e below s₁ m 32 #[vi f_, vi p_, vi q_, vi r_, vi 0, .val (.int (((f_.toUInt32 >>> ((1 : Int32) &&& 31).toUInt32).toInt32) &&& (3 : Int32))), u_, u_, u_, u_, u_] [(.int p_), (.int (((f_.toUInt32 >>> ((1 : Int32) &&& 31).toUInt32).toInt32) &&& (3 : Int32)))] t
   refine XS.iloadN X0.here hx rfl (hb hby at_32) rfl ?_
   show S_ p e below s₁ m 33 #[vi f_, vi p_, vi q_, vi r_, vi 0, .val (.int (((f_.toUInt32 >>> ((1 : Int32) &&& 31).toUInt32).toInt32) &&& (3 : Int32))), u_, u_, u_, u_, u_] [(.int q_), (.int p_), (.int (((f_.toUInt32 >>> ((1 : Int32) &&& 31).toUInt32).toInt32) &&& (3 : Int32)))] t
   refine XS.iloadN X0.here hx rfl (hb hby at_33) rfl ?_
   exact k
  obtain ⟨_, T4, L4, X4, hQ4, hS4, hZ4, hown4, c4⟩ := kstatB X0 hx hZ hown hS0 (Nat.zero_le _) (w0 hw) (w1 hw) (w2 hw) (w3 hw) (rm := ({ frames := 4, cells := 4, slots := 10, locals := 66 } : Room)) (backOfSI (W := 0) (rm_draw l Z a0 hw [] ((((f_.toUInt32 >>> ((1 : Int32) &&& 31).toUInt32).toInt32) &&& (3 : Int32))) p_ q_ r_ si19_ h0 n0 O0 ZS8_ sn22_ hlit_ hcw) hZ hI (w3 hw) (w2 hw) (by decide) (by decide)) e0 c3 hml pd_pIIIIrLjava_lang_String_ [(.int (((f_.toUInt32 >>> ((1 : Int32) &&& 31).toUInt32).toInt32) &&& (3 : Int32))), (.int p_), (.int q_), (.int r_)] [] (hb hby at_34) rfl rfl rfl rfl rfl rfl
  obtain ⟨b5, rfl, N6q, K7, p8, p9, p10⟩ := hQ4
  have N6 := Fr.app N0 N6q
  have o11 := O0.keep K7 all0
  have kp12 := kp0.trans K7 all0
  have z13 := Nat.le_trans kp0.1 p10
  have g14 := Nat.le_trans (Nat.le_trans (Nat.le_of_eq O0.1.symm) O0.2.1) p10
  have c15 : Kt p e below T4 st0 (mkF m 39 #[vi f_, vi p_, vi q_, vi r_, vi 0, .val (.int (((f_.toUInt32 >>> ((1 : Int32) &&& 31).toUInt32).toInt32) &&& (3 : Int32))), vr b5, u_, u_, u_, u_] []) := fun t k => by
   refine c4 t ?_
   show S_ p e below T4 m 37 #[vi f_, vi p_, vi q_, vi r_, vi 0, .val (.int (((f_.toUInt32 >>> ((1 : Int32) &&& 31).toUInt32).toInt32) &&& (3 : Int32))), u_, u_, u_, u_, u_] [(rr b5)] t
   refine XS.astore X4.here hx rfl (hb hby at_37) rfl rfl (l' := #[vi f_, vi p_, vi q_, vi r_, vi 0, .val (.int (((f_.toUInt32 >>> ((1 : Int32) &&& 31).toUInt32).toInt32) &&& (3 : Int32))), vr b5, u_, u_, u_, u_]) rfl ?_
   exact k
  obtain ⟨b16, T16, h16, z16, g16, X16, e16, E16, o17, A16, D16, U16, c16⟩ := knew X4 hx hZ4 hown4 (w26 hw) (w27 hw) (w28 hw) rfl c15 rfl (hb hby at_39) (by decide) (by decide) o11
  have kp18 := kp12.ext E16
  have z19 := Nat.le_trans kp12.1 z16
  have c20 : Kt p e below T16 st0 (mkF m 45 #[vi f_, vi p_, vi q_, vi r_, vi 0, .val (.int (((f_.toUInt32 >>> ((1 : Int32) &&& 31).toUInt32).toInt32) &&& (3 : Int32))), vr b5, u_, u_, u_, u_] [(rr b5), (rr b16), (rr b16)]) := fun t k => by
   refine c16 t ?_
   show S_ p e below T16 m 42 #[vi f_, vi p_, vi q_, vi r_, vi 0, .val (.int (((f_.toUInt32 >>> ((1 : Int32) &&& 31).toUInt32).toInt32) &&& (3 : Int32))), vr b5, u_, u_, u_, u_] [(rr b16)] t
   refine XS.dup X16.here hx rfl (hb hby at_42) rfl rfl ?_
   show S_ p e below T16 m 43 #[vi f_, vi p_, vi q_, vi r_, vi 0, .val (.int (((f_.toUInt32 >>> ((1 : Int32) &&& 31).toUInt32).toInt32) &&& (3 : Int32))), vr b5, u_, u_, u_, u_] [(rr b16), (rr b16)] t
   refine XS.aload X16.here hx rfl (hb hby at_43) rfl rfl ?_
   exact k
  obtain ⟨_, T21, L21, X21, hQ21, c21⟩ := kspec X16 hx hZ4 hown4 (w29 hw) (w30 hw) (w28 hw) (w31 hw) (rm_scopeR l Z a0 hw [] b16 b5 h16 n0 o17 A16 (show Fld Z h16 b16 nm2 "container" "Ljava/lang/String;" .null from D16 (Or.inr (w39 hw)) (ty := (.object nm1)) (by decide)) g16) e16 c20 hml pd_pLjava_lang_String_rV b16 [(rr b5)] [(rr b16)] 1 (hb hby at_45) rfl rfl rfl rfl rfl rfl
  obtain ⟨rfl, N22q, K23, p24, p25⟩ := hQ21
  have N22 := Fr.app N6 N22q
  have o26 := o17.keep K23 (allS g16 all0)
  have kp27 := kp18.trans K23 (allS (Or.inr z19) all0)
  have c28 : Kt p e below T21 st0 (mkF m 52 #[vi f_, vi p_, vi q_, vi r_, vi 0, .val (.int (((f_.toUInt32 >>> ((1 : Int32) &&& 31).toUInt32).toInt32) &&& (3 : Int32))), vr b5, vr b16, u_, u_, u_] [(rr b16)]) := fun t k => by
   refine c21 t ?_
   show S_ p e below T21 m 48 #[vi f_, vi p_, vi q_, vi r_, vi 0, .val (.int (((f_.toUInt32 >>> ((1 : Int32) &&& 31).toUInt32).toInt32) &&& (3 : Int32))), vr b5, u_, u_, u_, u_] [(rr b16)] t
   refine XS.astore X21.here hx rfl (hb hby at_48) rfl rfl (l' := #[vi f_, vi p_, vi q_, vi r_, vi 0, .val (.int (((f_.toUInt32 >>> ((1 : Int32) &&& 31).toUInt32).toInt32) &&& (3 : Int32))), vr b5, vr b16, u_, u_, u_]) rfl ?_
   show S_ p e below T21 m 50 #[vi f_, vi p_, vi q_, vi r_, vi 0, .val (.int (((f_.toUInt32 >>> ((1 : Int32) &&& 31).toUInt32).toInt32) &&& (3 : Int32))), vr b5, vr b16, u_, u_, u_] [] t
   refine XS.aload X21.here hx rfl (hb hby at_50) rfl rfl ?_
   exact k
  obtain ⟨_, T29, L29, X29, hQ29, c29⟩ := kvirt X21 hx hZ4 hown4 (w40 hw) (w41 hw) (w43 hw) (w42 hw) (w44 hw) (w28 hw) (rm_grantF l Z a0 hw [] b16 b5 sa3_ T21.heap n0 o26 p24 p25 ZS0_) rfl p24 c28 hml pd_prLjava_util_List_ [] [] 0 (hb hby at_52) rfl rfl rfl rfl rfl rfl
  obtain ⟨b30, rfl, N31q, K32, p33, p34, p35, p36, p37⟩ := hQ29
  have N31 := Fr.app N22 N31q
  have o38 := o26.keep K32 all0
  have kp39 := kp27.trans K32 all0
  have z40 := Nat.le_trans kp27.1 p37
  have g41 := Nat.le_trans (Nat.le_trans (Nat.le_of_eq o26.1.symm) o26.2.1) p37
  have q42 := Ne.symm (Nat.ne_of_lt (Nat.lt_of_lt_of_le ZE4_.lt (Nat.le_trans (Nat.le_of_eq O0.1) g16)))
  have c43 : Kt p e below T29 st0 (mkF m 98 #[vi f_, vi p_, vi q_, vi r_, vi 0, .val (.int (((f_.toUInt32 >>> ((1 : Int32) &&& 31).toUInt32).toInt32) &&& (3 : Int32))), vr b5, vr b16, vr b30, u_, u_] [(rr b30)]) := fun t k => by
   refine c29 t ?_
   show S_ p e below T29 m 55 #[vi f_, vi p_, vi q_, vi r_, vi 0, .val (.int (((f_.toUInt32 >>> ((1 : Int32) &&& 31).toUInt32).toInt32) &&& (3 : Int32))), vr b5, vr b16, u_, u_, u_] [(rr b30)] t
   refine XS.astore X29.here hx rfl (hb hby at_55) rfl rfl (l' := #[vi f_, vi p_, vi q_, vi r_, vi 0, .val (.int (((f_.toUInt32 >>> ((1 : Int32) &&& 31).toUInt32).toInt32) &&& (3 : Int32))), vr b5, vr b16, vr b30, u_, u_]) rfl ?_
   show S_ p e below T29 m 57 #[vi f_, vi p_, vi q_, vi r_, vi 0, .val (.int (((f_.toUInt32 >>> ((1 : Int32) &&& 31).toUInt32).toInt32) &&& (3 : Int32))), vr b5, vr b16, vr b30, u_, u_] [] t
   refine XS.iload X29.here hx rfl (hb hby at_57) rfl ?_
   show S_ p e below T29 m 59 #[vi f_, vi p_, vi q_, vi r_, vi 0, .val (.int (((f_.toUInt32 >>> ((1 : Int32) &&& 31).toUInt32).toInt32) &&& (3 : Int32))), vr b5, vr b16, vr b30, u_, u_] [(ii 0)] t
   refine yI X29.here hx rfl 59 96 rfl (hb hby at_59) rfl rfl ?_
   show S_ p e below T29 m 96 #[vi f_, vi p_, vi q_, vi r_, vi 0, .val (.int (((f_.toUInt32 >>> ((1 : Int32) &&& 31).toUInt32).toInt32) &&& (3 : Int32))), vr b5, vr b16, vr b30, u_, u_] [] t
   refine XS.aload X29.here hx rfl (hb hby at_96) rfl rfl ?_
   exact k
  obtain ⟨_, T44, L44, X44, hQ44, c44⟩ := kface X29 hx hZ4 hown4 (w90 hw) (w91 hw) (w92 hw) (w93 hw) (w94 hw) (w95 hw) (w96 hw) (w97 hw) (w98 hw) (w58 hw) (rm_size2 l Z a0 hw [] b30 sa9_ b16 T29.heap n0 o38 p35 ZS3_ q42) rfl p33 c43 hml pd_prI [] [] 0 (hb hby at_98) rfl rfl rfl rfl rfl rfl
  obtain ⟨rfl, N45q, K46⟩ := hQ44
  have N45 := Fr.app N31 N45q
  have c47 : Kt p e below T44 st0 (mkF m 112 #[vi f_, vi p_, vi q_, vi r_, vi 0, .val (.int (((f_.toUInt32 >>> ((1 : Int32) &&& 31).toUInt32).toInt32) &&& (3 : Int32))), vr b5, vr b16, vr b30, u_, u_] [(ii 0), (rr b30)]) := fun t k => by
   refine c44 t ?_
   show S_ p e below T44 m 103 #[vi f_, vi p_, vi q_, vi r_, vi 0, .val (.int (((f_.toUInt32 >>> ((1 : Int32) &&& 31).toUInt32).toInt32) &&& (3 : Int32))), vr b5, vr b16, vr b30, u_, u_] [(ii 2)] t
   refine XS.iconst X44.here hx rfl (hb hby at_103) ?_
   show S_ p e below T44 m 104 #[vi f_, vi p_, vi q_, vi r_, vi 0, .val (.int (((f_.toUInt32 >>> ((1 : Int32) &&& 31).toUInt32).toInt32) &&& (3 : Int32))), vr b5, vr b16, vr b30, u_, u_] [(ii 2), (ii 2)] t
   refine yC X44.here hx rfl 104 109 rfl (hb hby at_104) rfl rfl ?_
   show S_ p e below T44 m 109 #[vi f_, vi p_, vi q_, vi r_, vi 0, .val (.int (((f_.toUInt32 >>> ((1 : Int32) &&& 31).toUInt32).toInt32) &&& (3 : Int32))), vr b5, vr b16, vr b30, u_, u_] [] t
   refine XS.aload X44.here hx rfl (hb hby at_109) rfl rfl ?_
   show S_ p e below T44 m 111 #[vi f_, vi p_, vi q_, vi r_, vi 0, .val (.int (((f_.toUInt32 >>> ((1 : Int32) &&& 31).toUInt32).toInt32) &&& (3 : Int32))), vr b5, vr b16, vr b30, u_, u_] [(rr b30)] t
   refine XS.iconst X44.here hx rfl (hb hby at_111) ?_
   exact k
  obtain ⟨_, T48, L48, X48, hQ48, c48⟩ := kface X44 hx hZ4 hown4 (w101 hw) (w102 hw) (w103 hw) (w104 hw) (w105 hw) (w106 hw) (w107 hw) (w97 hw) (w108 hw) (w58 hw) (rm_get0 l Z a0 hw [] b30 sa3_ T29.heap n0 o38 p34) K46 p33 c47 hml pd_pIrLjava_lang_Object_ [(ii 0)] [] 0 (hb hby at_112) rfl rfl rfl rfl rfl rfl
  obtain ⟨rfl, N49q, K50⟩ := hQ48
  have N49 := Fr.app N45 N49q
  obtain ⟨T51, X51, e51, c51⟩ := kcast X48 hx hZ4 hown4 (w26 hw) K50 (Ins.self (ZE1_.ext o38.2)) c48 rfl rfl (hb hby at_117)
  have c52 : Kt p e below T51 st0 (mkF m 125 #[vi f_, vi p_, vi q_, vi r_, vi 0, .val (.int (((f_.toUInt32 >>> ((1 : Int32) &&& 31).toUInt32).toInt32) &&& (3 : Int32))), vr b5, vr b16, vr b30, vr sa3_, u_] [(ii 1), (rr b30)]) := fun t k => by
   refine c51 t ?_
   show S_ p e below T51 m 120 #[vi f_, vi p_, vi q_, vi r_, vi 0, .val (.int (((f_.toUInt32 >>> ((1 : Int32) &&& 31).toUInt32).toInt32) &&& (3 : Int32))), vr b5, vr b16, vr b30, u_, u_] [(rr sa3_)] t
   refine XS.astore X51.here hx rfl (hb hby at_120) rfl rfl (l' := #[vi f_, vi p_, vi q_, vi r_, vi 0, .val (.int (((f_.toUInt32 >>> ((1 : Int32) &&& 31).toUInt32).toInt32) &&& (3 : Int32))), vr b5, vr b16, vr b30, vr sa3_, u_]) rfl ?_
   show S_ p e below T51 m 122 #[vi f_, vi p_, vi q_, vi r_, vi 0, .val (.int (((f_.toUInt32 >>> ((1 : Int32) &&& 31).toUInt32).toInt32) &&& (3 : Int32))), vr b5, vr b16, vr b30, vr sa3_, u_] [] t
   refine XS.aload X51.here hx rfl (hb hby at_122) rfl rfl ?_
   show S_ p e below T51 m 124 #[vi f_, vi p_, vi q_, vi r_, vi 0, .val (.int (((f_.toUInt32 >>> ((1 : Int32) &&& 31).toUInt32).toInt32) &&& (3 : Int32))), vr b5, vr b16, vr b30, vr sa3_, u_] [(rr b30)] t
   refine XS.iconst X51.here hx rfl (hb hby at_124) ?_
   exact k
  obtain ⟨_, T53, L53, X53, hQ53, c53⟩ := kface X51 hx hZ4 hown4 (w101 hw) (w102 hw) (w103 hw) (w104 hw) (w105 hw) (w106 hw) (w107 hw) (w97 hw) (w108 hw) (w58 hw) (rm_get1 l Z a0 hw [] b30 b16 sa9_ T29.heap n0 o38 p35 ZS3_ q42) e51 p33 c52 hml pd_pIrLjava_lang_Object_ [(ii 1)] [] 0 (hb hby at_125) rfl rfl rfl rfl rfl rfl
  obtain ⟨rfl, N54q, K55⟩ := hQ53
  have N54 := Fr.app N49 N54q
  obtain ⟨T56, X56, e56, c56⟩ := kcast X53 hx hZ4 hown4 (w26 hw) K55 (Ins.self (p24.keep K32)) c53 rfl rfl (hb hby at_130)
  have c57 : Kt p e below T56 st0 (mkF m 137 #[vi f_, vi p_, vi q_, vi r_, vi 0, .val (.int (((f_.toUInt32 >>> ((1 : Int32) &&& 31).toUInt32).toInt32) &&& (3 : Int32))), vr b5, vr b16, vr b30, vr sa3_, vr b16] [(rr sa3_)]) := fun t k => by
   refine c56 t ?_
   show S_ p e below T56 m 133 #[vi f_, vi p_, vi q_, vi r_, vi 0, .val (.int (((f_.toUInt32 >>> ((1 : Int32) &&& 31).toUInt32).toInt32) &&& (3 : Int32))), vr b5, vr b16, vr b30, vr sa3_, u_] [(rr b16)] t
   refine XS.astore X56.here hx rfl (hb hby at_133) rfl rfl (l' := #[vi f_, vi p_, vi q_, vi r_, vi 0, .val (.int (((f_.toUInt32 >>> ((1 : Int32) &&& 31).toUInt32).toInt32) &&& (3 : Int32))), vr b5, vr b16, vr b30, vr sa3_, vr b16]) rfl ?_
   show S_ p e below T56 m 135 #[vi f_, vi p_, vi q_, vi r_, vi 0, .val (.int (((f_.toUInt32 >>> ((1 : Int32) &&& 31).toUInt32).toInt32) &&& (3 : Int32))), vr b5, vr b16, vr b30, vr sa3_, vr b16] [] t
   refine XS.aload X56.here hx rfl (hb hby at_135) rfl rfl ?_
   exact k
  obtain ⟨_, T58, L58, X58, hQ58, c58⟩ := kvirt X56 hx hZ4 hown4 (w110 hw) (w46 hw) (w48 hw) (w47 hw) (w49 hw) (w28 hw) (rm_comT l Z a0 hw [] sa3_ T29.heap n0 o38 (ZF2_.ext o38.2)) e56 (ZE1_.ext o38.2) c57 hml pd_prZ [] [] 0 (hb hby at_137) rfl rfl rfl rfl rfl rfl
  obtain ⟨rfl, N59q, K60⟩ := hQ58
  have N59 := Fr.app N54 N59q
  have c61 : Kt p e below T58 st0 (mkF m 147 #[vi f_, vi p_, vi q_, vi r_, vi 0, .val (.int (((f_.toUInt32 >>> ((1 : Int32) &&& 31).toUInt32).toInt32) &&& (3 : Int32))), vr b5, vr b16, vr b30, vr sa3_, vr b16] [(rr b5), (rr b16)]) := fun t k => by
   refine c58 t ?_
   show S_ p e below T58 m 140 #[vi f_, vi p_, vi q_, vi r_, vi 0, .val (.int (((f_.toUInt32 >>> ((1 : Int32) &&& 31).toUInt32).toInt32) &&& (3 : Int32))), vr b5, vr b16, vr b30, vr sa3_, vr b16] [(ii 1)] t
   refine XS.ifNo X58.here hx rfl (hb hby at_140) rfl rfl ?_
   show S_ p e below T58 m 143 #[vi f_, vi p_, vi q_, vi r_, vi 0, .val (.int (((f_.toUInt32 >>> ((1 : Int32) &&& 31).toUInt32).toInt32) &&& (3 : Int32))), vr b5, vr b16, vr b30, vr sa3_, vr b16] [] t
   refine XS.aload X58.here hx rfl (hb hby at_143) rfl rfl ?_
   show S_ p e below T58 m 145 #[vi f_, vi p_, vi q_, vi r_, vi 0, .val (.int (((f_.toUInt32 >>> ((1 : Int32) &&& 31).toUInt32).toInt32) &&& (3 : Int32))), vr b5, vr b16, vr b30, vr sa3_, vr b16] [(rr b16)] t
   refine XS.aload X58.here hx rfl (hb hby at_145) rfl rfl ?_
   exact k
  obtain ⟨_, T62, L62, X62, hQ62, c62⟩ := kstat X58 hx hZ4 hown4 (w111 hw) (w112 hw) (w2 hw) (w113 hw) (rm_loc l Z a0 hw [] b16 b5 T29.heap n0 o38 (p24.keep K32) (p25.keep K32 nin0) (((p8.ext E16).keep K23).keep K32)) K60 c61 hml pd_pLportcullis_catalog_Scope_Ljava_lang_String_rZ [(rr b16), (rr b5)] [] 0 (hb hby at_147) rfl rfl rfl rfl rfl rfl
  obtain ⟨rfl, N63q, K64⟩ := hQ62
  have N63 := Fr.app N59 N63q
  obtain ⟨fs, hr, hrun, hended, hRW⟩ := X62.leaveW hS4 (by first | exact (Nat.le_trans (Nat.le_refl _) (Nat.le_trans (Nat.le_trans E16.1 K23.1) K32.1)) | (rw [K64]; exact (Nat.le_trans (Nat.le_refl _) (Nat.le_trans (Nat.le_trans E16.1 K23.1) K32.1)))) (v := some (ii 1)) (fun h => by rw [Bd.returns] at h; cases h)
  refine ⟨_, _, c62 _ ?_, hrun, hended, _, _, rfl, ?_, hRW.1, hRW.2.1, hRW.2.2.1, hRW.2.2.2.mono (by decide) (by decide)⟩
  ·show S_ p e below T62 m 150 #[vi f_, vi p_, vi q_, vi r_, vi 0, .val (.int (((f_.toUInt32 >>> ((1 : Int32) &&& 31).toUInt32).toInt32) &&& (3 : Int32))), vr b5, vr b16, vr b30, vr sa3_, vr b16] [(ii 1)] _
   refine yI X62.here hx rfl 150 171 rfl (hb hby at_150) rfl rfl ?_
   show S_ p e below T62 m 171 #[vi f_, vi p_, vi q_, vi r_, vi 0, .val (.int (((f_.toUInt32 >>> ((1 : Int32) &&& 31).toUInt32).toInt32) &&& (3 : Int32))), vr b5, vr b16, vr b30, vr sa3_, vr b16] [] _
   refine XS.iconst X62.here hx rfl (hb hby at_171) ?_
   show S_ p e below T62 m 172 #[vi f_, vi p_, vi q_, vi r_, vi 0, .val (.int (((f_.toUInt32 >>> ((1 : Int32) &&& 31).toUInt32).toInt32) &&& (3 : Int32))), vr b5, vr b16, vr b30, vr sa3_, vr b16] [(ii 1)] _
   refine yG X62.here hx rfl 172 176 rfl (hb hby at_172) ?_
   show S_ p e below T62 m 176 #[vi f_, vi p_, vi q_, vi r_, vi 0, .val (.int (((f_.toUInt32 >>> ((1 : Int32) &&& 31).toUInt32).toInt32) &&& (3 : Int32))), vr b5, vr b16, vr b30, vr sa3_, vr b16] [(ii 1)] _
   exact retN X62 hx (t := .boolean) Bd.returns (by simp) (hb hby at_176) hr
  ·show Q_law Z f_ p_ q_ r_ sa3_ sa9_ sa15_ si19_ sv24_ h0 n0 _ T62.heap _
   rw [K64]
   exact ⟨rfl, N63, kp39⟩
 ·have c65 : Kt p e below s₁ st0 (mkF m 39 #[vi f_, vi p_, vi q_, vi r_, vi 1, .val (.int (((f_.toUInt32 >>> ((1 : Int32) &&& 31).toUInt32).toInt32) &&& (3 : Int32))), .val .null, u_, u_, u_, u_] []) := fun t k => by
   refine c1 t ?_
   show S_ p e below s₁ m 3 #[vi f_, vi p_, vi q_, vi r_, u_, u_, u_, u_, u_, u_, u_] [(.int (f_ &&& (1 : Int32)))] t
   refine XS.ifNo X0.here hx rfl (hb hby at_3) rfl ((if0 _ _).trans (feq hc2).1) ?_
   show S_ p e below s₁ m 6 #[vi f_, vi p_, vi q_, vi r_, u_, u_, u_, u_, u_, u_, u_] [] t
   refine XS.iconst X0.here hx rfl (hb hby at_6) ?_
   show S_ p e below s₁ m 7 #[vi f_, vi p_, vi q_, vi r_, u_, u_, u_, u_, u_, u_, u_] [(ii 1)] t
   refine yG X0.here hx rfl 7 11 rfl (hb hby at_7) ?_
   show S_ p e below s₁ m 11 #[vi f_, vi p_, vi q_, vi r_, u_, u_, u_, u_, u_, u_, u_] [(ii 1)] t
   refine XS.istore X0.here hx rfl (hb hby at_11) rfl (l' := #[vi f_, vi p_, vi q_, vi r_, vi 1, u_, u_, u_, u_, u_, u_]) rfl ?_
   show S_ p e below s₁ m 13 #[vi f_, vi p_, vi q_, vi r_, vi 1, u_, u_, u_, u_, u_, u_] [] t
   refine XS.iloadN X0.here hx rfl (hb hby at_13) rfl ?_
   show S_ p e below s₁ m 14 #[vi f_, vi p_, vi q_, vi r_, vi 1, u_, u_, u_, u_, u_, u_] [(.int f_)] t
   refine XS.iconst X0.here hx rfl (hb hby at_14) ?_
   show S_ p e below s₁ m 15 #[vi f_, vi p_, vi q_, vi r_, vi 1, u_, u_, u_, u_, u_, u_] [(ii 1), (.int f_)] t
   refine XS.iushr X0.here hx rfl (hb hby at_15) rfl ?_
   show S_ p e below s₁ m 16 #[vi f_, vi p_, vi q_, vi r_, vi 1, u_, u_, u_, u_, u_, u_] [(.int ((f_.toUInt32 >>> ((1 : Int32) &&& 31).toUInt32).toInt32))] t
   refine XS.iconst X0.here hx rfl (hb hby at_16) ?_
   show S_ p e below s₁ m 17 #[vi f_, vi p_, vi q_, vi r_, vi 1, u_, u_, u_, u_, u_, u_] [(ii 3), (.int ((f_.toUInt32 >>> ((1 : Int32) &&& 31).toUInt32).toInt32))] t
   refine XS.iand X0.here hx rfl (hb hby at_17) rfl ?_
   show S_ p e below s₁ m 18 #[vi f_, vi p_, vi q_, vi r_, vi 1, u_, u_, u_, u_, u_, u_] [(.int (((f_.toUInt32 >>> ((1 : Int32) &&& 31).toUInt32).toInt32) &&& (3 : Int32)))] t
   refine XS.istore X0.here hx rfl (hb hby at_18) rfl (l' := #[vi f_, vi p_, vi q_, vi r_, vi 1, .val (.int (((f_.toUInt32 >>> ((1 : Int32) &&& 31).toUInt32).toInt32) &&& (3 : Int32))), u_, u_, u_, u_, u_]) rfl ?_
   show S_ p e below s₁ m 20 #[vi f_, vi p_, vi q_, vi r_, vi 1, .val (.int (((f_.toUInt32 >>> ((1 : Int32) &&& 31).toUInt32).toInt32) &&& (3 : Int32))), u_, u_, u_, u_, u_] [] t
   refine XS.iload X0.here hx rfl (hb hby at_20) rfl ?_
   show S_ p e below s₁ m 22 #[vi f_, vi p_, vi q_, vi r_, vi 1, .val (.int (((f_.toUInt32 >>> ((1 : Int32) &&& 31).toUInt32).toInt32) &&& (3 : Int32))), u_, u_, u_, u_, u_] [(ii 1)] t
   refine XS.ifNo X0.here hx rfl (hb hby at_22) rfl rfl ?_
   show S_ p e below s₁ m 25 #[vi f_, vi p_, vi q_, vi r_, vi 1, .val (.int (((f_.toUInt32 >>> ((1 : Int32) &&& 31).toUInt32).toInt32) &&& (3 : Int32))), u_, u_, u_, u_, u_] [] t
   refine XS.aconstNull X0.here hx rfl (hb hby at_25) ?_
   show S_ p e below s₁ m 26 #[vi f_, vi p_, vi q_, vi r_, vi 1, .val (.int (((f_.toUInt32 >>> ((1 : Int32) &&& 31).toUInt32).toInt32) &&& (3 : Int32))), u_, u_, u_, u_, u_] [.null] t
   refine yG X0.here hx rfl 26 37 rfl (hb hby at_26) ?_
   show S_ p e below s₁ m 37 #[vi f_, vi p_, vi q_, vi r_, vi 1, .val (.int (((f_.toUInt32 >>> ((1 : Int32) &&& 31).toUInt32).toInt32) &&& (3 : Int32))), u_, u_, u_, u_, u_] [.null] t
   refine XS.astore X0.here hx rfl (hb hby at_37) rfl rfl (l' := #[vi f_, vi p_, vi q_, vi r_, vi 1, .val (.int (((f_.toUInt32 >>> ((1 : Int32) &&& 31).toUInt32).toInt32) &&& (3 : Int32))), .val .null, u_, u_, u_, u_]) rfl ?_
   exact k
  obtain ⟨b66, T66, h66, z66, g66, X66, e66, E66, o67, A66, D66, U66, c66⟩ := knew X0 hx hZ hown (w26 hw) (w27 hw) (w28 hw) e0 c65 rfl (hb hby at_39) (by decide) (by decide) O0
  have kp68 := kp0.ext E66
  have z69 := Nat.le_trans kp0.1 z66
  have c70 : Kt p e below T66 st0 (mkF m 45 #[vi f_, vi p_, vi q_, vi r_, vi 1, .val (.int (((f_.toUInt32 >>> ((1 : Int32) &&& 31).toUInt32).toInt32) &&& (3 : Int32))), .val .null, u_, u_, u_, u_] [.null, (rr b66), (rr b66)]) := fun t k => by
   refine c66 t ?_
   show S_ p e below T66 m 42 #[vi f_, vi p_, vi q_, vi r_, vi 1, .val (.int (((f_.toUInt32 >>> ((1 : Int32) &&& 31).toUInt32).toInt32) &&& (3 : Int32))), .val .null, u_, u_, u_, u_] [(rr b66)] t
   refine XS.dup X66.here hx rfl (hb hby at_42) rfl rfl ?_
   show S_ p e below T66 m 43 #[vi f_, vi p_, vi q_, vi r_, vi 1, .val (.int (((f_.toUInt32 >>> ((1 : Int32) &&& 31).toUInt32).toInt32) &&& (3 : Int32))), .val .null, u_, u_, u_, u_] [(rr b66), (rr b66)] t
   refine XS.aload X66.here hx rfl (hb hby at_43) rfl rfl ?_
   exact k
  obtain ⟨_, T71, L71, X71, hQ71, c71⟩ := kspec X66 hx hZ hown (w29 hw) (w30 hw) (w28 hw) (w31 hw) (rm_scopeN l Z a0 hw [] b66 h66 n0 o67 A66 (show Fld Z h66 b66 nm2 "container" "Ljava/lang/String;" .null from D66 (Or.inr (w39 hw)) (ty := (.object nm1)) (by decide)) g66) e66 c70 hml pd_pLjava_lang_String_rV b66 [.null] [(rr b66)] 1 (hb hby at_45) rfl rfl rfl rfl rfl rfl
  obtain ⟨rfl, N72q, K73, p74, p75⟩ := hQ71
  have N72 := Fr.app N0 N72q
  have o76 := o67.keep K73 (allS g66 all0)
  have kp77 := kp68.trans K73 (allS (Or.inr z69) all0)
  have c78 : Kt p e below T71 st0 (mkF m 52 #[vi f_, vi p_, vi q_, vi r_, vi 1, .val (.int (((f_.toUInt32 >>> ((1 : Int32) &&& 31).toUInt32).toInt32) &&& (3 : Int32))), .val .null, vr b66, u_, u_, u_] [(rr b66)]) := fun t k => by
   refine c71 t ?_
   show S_ p e below T71 m 48 #[vi f_, vi p_, vi q_, vi r_, vi 1, .val (.int (((f_.toUInt32 >>> ((1 : Int32) &&& 31).toUInt32).toInt32) &&& (3 : Int32))), .val .null, u_, u_, u_, u_] [(rr b66)] t
   refine XS.astore X71.here hx rfl (hb hby at_48) rfl rfl (l' := #[vi f_, vi p_, vi q_, vi r_, vi 1, .val (.int (((f_.toUInt32 >>> ((1 : Int32) &&& 31).toUInt32).toInt32) &&& (3 : Int32))), .val .null, vr b66, u_, u_, u_]) rfl ?_
   show S_ p e below T71 m 50 #[vi f_, vi p_, vi q_, vi r_, vi 1, .val (.int (((f_.toUInt32 >>> ((1 : Int32) &&& 31).toUInt32).toInt32) &&& (3 : Int32))), .val .null, vr b66, u_, u_, u_] [] t
   refine XS.aload X71.here hx rfl (hb hby at_50) rfl rfl ?_
   exact k
  obtain ⟨_, T79, L79, X79, hQ79, c79⟩ := kvirt X71 hx hZ hown (w40 hw) (w41 hw) (w43 hw) (w42 hw) (w44 hw) (w28 hw) (rm_grantT l Z a0 hw [] b66 sa9_ sa3_ T71.heap n0 o76 p74 p75 ZS3_ ZS0_) rfl p74 c78 hml pd_prLjava_util_List_ [] [] 0 (hb hby at_52) rfl rfl rfl rfl rfl rfl
  obtain ⟨b80, rfl, N81q, K82, p83, p84, p85, p86, p87⟩ := hQ79
  have N81 := Fr.app N72 N81q
  have o88 := o76.keep K82 all0
  have kp89 := kp77.trans K82 all0
  have z90 := Nat.le_trans kp77.1 p87
  have g91 := Nat.le_trans (Nat.le_trans (Nat.le_of_eq o76.1.symm) o76.2.1) p87
  have c92 : Kt p e below T79 st0 (mkF m 64 #[vi f_, vi p_, vi q_, vi r_, vi 1, .val (.int (((f_.toUInt32 >>> ((1 : Int32) &&& 31).toUInt32).toInt32) &&& (3 : Int32))), .val .null, vr b66, vr b80, u_, u_] [(rr b80)]) := fun t k => by
   refine c79 t ?_
   show S_ p e below T79 m 55 #[vi f_, vi p_, vi q_, vi r_, vi 1, .val (.int (((f_.toUInt32 >>> ((1 : Int32) &&& 31).toUInt32).toInt32) &&& (3 : Int32))), .val .null, vr b66, u_, u_, u_] [(rr b80)] t
   refine XS.astore X79.here hx rfl (hb hby at_55) rfl rfl (l' := #[vi f_, vi p_, vi q_, vi r_, vi 1, .val (.int (((f_.toUInt32 >>> ((1 : Int32) &&& 31).toUInt32).toInt32) &&& (3 : Int32))), .val .null, vr b66, vr b80, u_, u_]) rfl ?_
   show S_ p e below T79 m 57 #[vi f_, vi p_, vi q_, vi r_, vi 1, .val (.int (((f_.toUInt32 >>> ((1 : Int32) &&& 31).toUInt32).toInt32) &&& (3 : Int32))), .val .null, vr b66, vr b80, u_, u_] [] t
   refine XS.iload X79.here hx rfl (hb hby at_57) rfl ?_
   show S_ p e below T79 m 59 #[vi f_, vi p_, vi q_, vi r_, vi 1, .val (.int (((f_.toUInt32 >>> ((1 : Int32) &&& 31).toUInt32).toInt32) &&& (3 : Int32))), .val .null, vr b66, vr b80, u_, u_] [(ii 1)] t
   refine XS.ifNo X79.here hx rfl (hb hby at_59) rfl rfl ?_
   show S_ p e below T79 m 62 #[vi f_, vi p_, vi q_, vi r_, vi 1, .val (.int (((f_.toUInt32 >>> ((1 : Int32) &&& 31).toUInt32).toInt32) &&& (3 : Int32))), .val .null, vr b66, vr b80, u_, u_] [] t
   refine XS.aload X79.here hx rfl (hb hby at_62) rfl rfl ?_
   exact k
  obtain ⟨_, T93, L93, X93, hQ93, c93⟩ := kface X79 hx hZ hown (w90 hw) (w91 hw) (w92 hw) (w93 hw) (w94 hw) (w95 hw) (w96 hw) (w97 hw) (w98 hw) (w58 hw) (rm_size1 l Z a0 hw [] b80 sa9_ T79.heap n0 o88 p85 ZS3_) rfl p83 c92 hml pd_prI [] [] 0 (hb hby at_64) rfl rfl rfl rfl rfl rfl
  obtain ⟨rfl, N94q, K95⟩ := hQ93
  have N94 := Fr.app N81 N94q
  have c96 : Kt p e below T93 st0 (mkF m 76 #[vi f_, vi p_, vi q_, vi r_, vi 1, .val (.int (((f_.toUInt32 >>> ((1 : Int32) &&& 31).toUInt32).toInt32) &&& (3 : Int32))), .val .null, vr b66, vr b80, u_, u_] [(ii 0), (rr b80)]) := fun t k => by
   refine c93 t ?_
   show S_ p e below T93 m 69 #[vi f_, vi p_, vi q_, vi r_, vi 1, .val (.int (((f_.toUInt32 >>> ((1 : Int32) &&& 31).toUInt32).toInt32) &&& (3 : Int32))), .val .null, vr b66, vr b80, u_, u_] [(ii 1)] t
   refine XS.iconst X93.here hx rfl (hb hby at_69) ?_
   show S_ p e below T93 m 70 #[vi f_, vi p_, vi q_, vi r_, vi 1, .val (.int (((f_.toUInt32 >>> ((1 : Int32) &&& 31).toUInt32).toInt32) &&& (3 : Int32))), .val .null, vr b66, vr b80, u_, u_] [(ii 1), (ii 1)] t
   refine XS.icmpNo X93.here hx rfl (hb hby at_70) rfl rfl ?_
   show S_ p e below T93 m 73 #[vi f_, vi p_, vi q_, vi r_, vi 1, .val (.int (((f_.toUInt32 >>> ((1 : Int32) &&& 31).toUInt32).toInt32) &&& (3 : Int32))), .val .null, vr b66, vr b80, u_, u_] [] t
   refine XS.aload X93.here hx rfl (hb hby at_73) rfl rfl ?_
   show S_ p e below T93 m 75 #[vi f_, vi p_, vi q_, vi r_, vi 1, .val (.int (((f_.toUInt32 >>> ((1 : Int32) &&& 31).toUInt32).toInt32) &&& (3 : Int32))), .val .null, vr b66, vr b80, u_, u_] [(rr b80)] t
   refine XS.iconst X93.here hx rfl (hb hby at_75) ?_
   exact k
  obtain ⟨_, T97, L97, X97, hQ97, c97⟩ := kface X93 hx hZ hown (w101 hw) (w102 hw) (w103 hw) (w104 hw) (w105 hw) (w106 hw) (w107 hw) (w97 hw) (w108 hw) (w58 hw) (rm_get0 l Z a0 hw [] b80 sa3_ T79.heap n0 o88 p84) K95 p83 c96 hml pd_pIrLjava_lang_Object_ [(ii 0)] [] 0 (hb hby at_76) rfl rfl rfl rfl rfl rfl
  obtain ⟨rfl, N98q, K99⟩ := hQ97
  have N98 := Fr.app N94 N98q
  obtain ⟨T100, X100, e100, c100⟩ := kcast X97 hx hZ hown (w26 hw) K99 (Ins.self (ZE1_.ext o88.2)) c97 rfl rfl (hb hby at_81)
  obtain ⟨_, T101, L101, X101, hQ101, c101⟩ := kvirt X100 hx hZ hown (w110 hw) (w46 hw) (w48 hw) (w47 hw) (w49 hw) (w28 hw) (rm_comT l Z a0 hw [] sa3_ T79.heap n0 o88 (ZF2_.ext o88.2)) e100 (ZE1_.ext o88.2) c100 hml pd_prZ [] [] 0 (hb hby at_84) rfl rfl rfl rfl rfl rfl
  obtain ⟨rfl, N102q, K103⟩ := hQ101
  have N102 := Fr.app N98 N102q
  obtain ⟨fs, hr, hrun, hended, hRW⟩ := X101.leaveW hS0 (by first | exact (Nat.le_trans (Nat.zero_le _) (Nat.le_trans (Nat.le_trans E66.1 K73.1) K82.1)) | (rw [K103]; exact (Nat.le_trans (Nat.zero_le _) (Nat.le_trans (Nat.le_trans E66.1 K73.1) K82.1)))) (v := some (ii 1)) (fun h => by rw [Bd.returns] at h; cases h)
  refine ⟨_, _, c101 _ ?_, hrun, hended, _, _, rfl, ?_, hRW.1, hRW.2.1, hRW.2.2.1, hRW.2.2.2.mono (by decide) (by decide)⟩
  ·show S_ p e below T101 m 87 #[vi f_, vi p_, vi q_, vi r_, vi 1, .val (.int (((f_.toUInt32 >>> ((1 : Int32) &&& 31).toUInt32).toInt32) &&& (3 : Int32))), .val .null, vr b66, vr b80, u_, u_] [(ii 1)] _
   refine XS.ifNo X101.here hx rfl (hb hby at_87) rfl rfl ?_
   show S_ p e below T101 m 90 #[vi f_, vi p_, vi q_, vi r_, vi 1, .val (.int (((f_.toUInt32 >>> ((1 : Int32) &&& 31).toUInt32).toInt32) &&& (3 : Int32))), .val .null, vr b66, vr b80, u_, u_] [] _
   refine XS.iconst X101.here hx rfl (hb hby at_90) ?_
   show S_ p e below T101 m 91 #[vi f_, vi p_, vi q_, vi r_, vi 1, .val (.int (((f_.toUInt32 >>> ((1 : Int32) &&& 31).toUInt32).toInt32) &&& (3 : Int32))), .val .null, vr b66, vr b80, u_, u_] [(ii 1)] _
   refine yG X101.here hx rfl 91 95 rfl (hb hby at_91) ?_
   show S_ p e below T101 m 95 #[vi f_, vi p_, vi q_, vi r_, vi 1, .val (.int (((f_.toUInt32 >>> ((1 : Int32) &&& 31).toUInt32).toInt32) &&& (3 : Int32))), .val .null, vr b66, vr b80, u_, u_] [(ii 1)] _
   exact retN X101 hx (t := .boolean) Bd.returns (by simp) (hb hby at_95) hr
  ·show Q_law Z f_ p_ q_ r_ sa3_ sa9_ sa15_ si19_ sv24_ h0 n0 _ T101.heap _
   rw [K103]
   exact ⟨rfl, N102, kp89⟩
set_option maxRecDepth 65536 in
set_option maxHeartbeats 40000000 in
theorem comes_1 {Post : Tables → Env → Array Value → State → Outcome → State → Prop} (hpost : ∀ tb e args s v u, (limb_1_1.after args s (.returned v) u = true ∧ limb_1_2.after args s (.returned v) u = true ∧ True) → ReturnedEndW s (.returned v) u (Jvm.fieldLocs frame_1_writes args s ++ Jvm.arrayLocs frame_1_arrays args s ++ Jvm.staticLocs frame_1_statics s) 24 1152 → Post tb e args s (.returned v) u) :
  ArmFor flags0 classFile x code maxLocals ret World_1 tables_1 room_1 Calls_1 rest_1 Pre_1 Post := by
 intro l hfl _ _ p e ha hc hk s m args below hf hA hF happ hP
 obtain ⟨hcalls, hrest, hpre⟩ := hP
 obtain ⟨-, -, -, hnamed, -, -, -, hat⟩ := (Spec.applies_iff hf).mp happ
 obtain ⟨hg, hn⟩ := and_e (Jvm.Cond.before_iff.mp (show (Jvm.Cond.and given_1 narrow_1).before args s = true from hpre))
 obtain ⟨ga0, gb0⟩ := and_e hg
 obtain ⟨ga1, gb1⟩ := and_e gb0
 obtain ⟨ga2, gb2⟩ := and_e gb1
 obtain ⟨ga3, gb3⟩ := and_e gb2
 obtain ⟨wv0, wv1, wv2, wv3, rfl⟩ : ∃ wv0 wv1 wv2 wv3 : Value, args = #[wv0, wv1, wv2, wv3] := by
  have hs : args.size = 4 := by simpa [Jvm.Cond.value, given_1] using ga0
  obtain ⟨L⟩ := args
  match L, hs with
  | [wv0, wv1, wv2, wv3], _ => exact ⟨wv0, wv1, wv2, wv3, rfl⟩
 have hw := fun d (hd : d ∈ tables_1) => atoms_spec (ws := Jvm.Cond.code x code maxLocals ret :: tables_1) hat d (List.mem_cons_of_mem _ hd)
 have hfit : Fit s := fun {y c} hc i hi => by
  obtain ⟨ha, rfl⟩ := Array.getElem?_eq_some_iff.mp hc
  have q := List.all_eq_true.mp ((Array.all_eq_true_iff_forall_mem.mp hF) _ (Array.getElem_mem ha)) i (List.mem_range.mpr hi)
  simpa [Array.getElem?_eq_getElem hi] using q
 obtain ⟨hsets, hown0⟩ := atoms_of _ (rest_1_c_eq ▸ (show rest_1_c.before _ s = true from hrest))
 obtain ⟨i0, ei0⟩ := is_v ga1
 obtain rfl : wv0 = (.int i0) := Option.some.inj ei0
 obtain ⟨i1, ei1⟩ := is_v ga2
 obtain rfl : wv1 = (.int i1) := Option.some.inj ei1
 obtain ⟨i2, ei2⟩ := is_v ga3
 obtain rfl : wv2 = (.int i2) := Option.some.inj ei2
 obtain ⟨i3, ei3⟩ := is_v gb3
 obtain rfl : wv3 = (.int i3) := Option.some.inj ei3
 obtain ⟨nw1_, nw2_⟩ := and_e hn
 obtain ⟨sa3_, se4_⟩ := exa_v nw1_
 have sf5_ : Sta s s.heap nm2 "COMMON" "Lportcullis/catalog/Scope;" (rr sa3_) := Sta.start se4_ (Or.inr ⟨(w28 hw), (w51 hw)⟩)
 have sf6_ : Exa s s.heap sa3_ nm2 := Exa.start se4_ nw1_
 have se7_ := null_v nw2_
 have sf8_ : Fld s s.heap sa3_ nm2 "container" "Ljava/lang/String;" .null := Fld.start ((fld_at se4_).symm.trans se7_)
 obtain ⟨sa9_, se10_⟩ := exa_v (Jvm.Cond.before_iff.mp (hsets _ (List.mem_of_getElem? (i := 2) rfl)))
 have sf11_ : Sta s s.heap nm9 "EMPTY" nm4 (rr sa9_) := Sta.start se10_ (Or.inl (hsets _ (List.mem_of_getElem? (i := 1) rfl)))
 have sf12_ : Exa s s.heap sa9_ nm6 := Exa.start se10_ (Jvm.Cond.before_iff.mp (hsets _ (List.mem_of_getElem? (i := 2) rfl)))
 have se13_ : (Jvm.Term.static nm9 "$assertionsDisabled" "Z").eval _ s none [] s = some (ii 1) := (Jvm.Cond.eq_int (beq_iff_eq.mpr (Jvm.Cond.before_iff.mp (hsets _ (List.mem_of_getElem? (i := 5) rfl)))) (Term.int_eval _))
 have sf14_ : Sta s s.heap nm9 "$assertionsDisabled" "Z" (ii 1) := Sta.start se13_ (Or.inl (hsets _ (List.mem_of_getElem? (i := 4) rfl)))
 obtain ⟨sa15_, se16_⟩ := exa_v (Jvm.Cond.before_iff.mp (hsets _ (List.mem_of_getElem? (i := 8) rfl)))
 have sf17_ : Sta s s.heap nm9 "EMPTY_LIST" "Ljava/util/ImmutableCollections$ListN;" (rr sa15_) := Sta.start se16_ (Or.inl (hsets _ (List.mem_of_getElem? (i := 7) rfl)))
 have sf18_ : Exa s s.heap sa15_ "java/util/ImmutableCollections$ListN" := Exa.start se16_ (Jvm.Cond.before_iff.mp (hsets _ (List.mem_of_getElem? (i := 8) rfl)))
 obtain ⟨si19_, se20_⟩ := is_v (Jvm.Cond.before_iff.mp (hsets _ (List.mem_of_getElem? (i := 10) rfl)))
 have sf21_ : Sta s s.heap nm1 "COMPACT_STRINGS" "Z" (.int si19_) := Sta.start se20_ (Or.inl (hsets _ (List.mem_of_getElem? (i := 9) rfl)))
 have sr23_ : ¬ (si19_ = (0 : Int32)) := gotF (Jvm.Cond.eq_ints se20_ (Term.int_eval _)) (not_v (Jvm.Cond.before_iff.mp (hsets _ (List.mem_of_getElem? (i := 11) rfl))))
 obtain ⟨sv24_, se25_, sv24_r⟩ := isR_v (Jvm.Cond.before_iff.mp (hsets _ (List.mem_of_getElem? (i := 17) rfl)))
 have sf26_ : Sta s s.heap "jdk/internal/util/Preconditions" "SIOOBE_FORMATTER" "Ljava/util/function/BiFunction;" sv24_ := Sta.start se25_ (Or.inl (hsets _ (List.mem_of_getElem? (i := 16) rfl)))
 have hl7 : Jvm.Lit.constHeld s nm1 7 := hcalls.1 (nm1, 7) (by simp [consts_1])
 have hcw : Jvm.Lit.compactW.before #[.int i0, .int i1, .int i2, .int i3] s = true := (hsets _ (List.mem_of_getElem? (i := 11) rfl))
 obtain ⟨n, o, h1, h2, h3, _, L, rfl, ⟨rfl, N, -⟩, hq⟩ := rm_law l s _ hw tables_1 i0 i1 i2 i3 sa3_ sa9_ sa15_ si19_ sv24_ s.heap s.heap.size (Old.start s) sf5_ sf6_ sf8_ sf11_ sf12_ sf14_ sf17_ sf18_ sf21_ sr23_ sv24_r sf26_ hl7 hcw p e ha hc hk s m _ below hf ((Spec.applies_iff_loose hf).mp happ).1 ⟨rfl, State.Warmed39.refl s, rfl, rfl⟩ trivial
 refine ⟨n, _, h1, h2, h3, hpost _ _ _ _ _ _ ⟨Jvm.Cond.after_iff.mpr rfl, Jvm.Cond.after_iff.mpr (eq_i res_at (Term.int_eval (1)) rfl), trivial⟩ ⟨hq.1, hq.2.1, hq.2.2.1, (hq.2.2.2.sift fun y hy => Or.inr (N y hy)).mono (by decide) (by decide)⟩⟩
theorem main_1_1 : Claimed_1_1 := comes_1 fun _ _ _ _ _ _ h hF => ⟨h.1, hF⟩
theorem main_1_2 : Claimed_1_2 := comes_1 fun _ _ _ _ _ _ h hF => ⟨h.2.1, hF⟩
end Jvm.Pilot.@@N@@
namespace Jvm.Pilot.@@N@@
open Jvm Jvm.ClassFile Sem Op Lib Jvm.Free Jvm.Stand Jvm.Pilot.@@N@@.Jvm.D
/-! MADE BY PROGRAM (witnessworld.py) out of the Statement's table words and the real class files: 33 classes; the members and pool entries that the words name. The judged class is class 1, her method 3. -/
namespace start1
open Jvm.ClassFile
def u (s : String) : CpInfo := .utf8 (stringToUtf16 s)
/-- a pool by its gaps: so many unusable entries, then the entry; so many at the end -/
def gap : Nat → List CpInfo → List CpInfo
  | 0, r => r
  | n + 1, r => .unusable :: gap n r
def poolList (es : List (Nat × CpInfo)) (last : Nat) : List CpInfo := es.foldr (fun e r => gap e.1 (e.2 :: r)) (gap last [])
def pool (es : List (Nat × CpInfo)) (last : Nat) : Array CpInfo := ⟨poolList es last⟩
def fileOf (pool : Array CpInfo) (this : Nat) (attrs : Array Attribute := #[]) (ms : Array MethodInfo := #[]) (fl : Nat := 33) (sup : Nat := 0) (ifs : Array Nat := #[]) (fds : Array FieldInfo := #[]) : ClassFile where
  minorVersion := 0
  majorVersion := 65
  constantPool := pool
  accessFlags := fl
  thisClass := this
  superClass := sup
  interfaces := ifs
  fields := fds
  methods := ms
  attributes := attrs
def plain (name : String) (sup : Option ClassId) : Class where
  name := name
  kind := .ordinary
  loader := none
  accessFlags := 33
  super := sup
  interfaces := #[]
  cf := none
  fields := #[]
  methods := #[]
  instanceTypes := #[]
  staticTypes := #[]
  resolved := #[]
  callSites := []
  init := .initialized
  statics := none
  mirror := none

def pool0 : Array CpInfo := pool [(5, u "<init>"), (0, u "()V"), (1, .class_ 10), (1, u "java/lang/Object")] 113

def k0c0 : Code := { maxStack := 0, maxLocals := 1, code := object_method_1_code, exceptionTable := #[], attributes := #[] }
def k0m0 : Method := { name := "<init>", desc := "()V", sig := { parameters := [], returnType := none }, accessFlags := 1, code := some k0c0 }
/-- java/lang/Object -/
def k0 : Class := { plain "java/lang/Object" none with
  accessFlags := 33
  interfaces := #[]
  cf := some (fileOf pool0 8 #[] #[{ accessFlags := 1, nameIndex := 5, descriptorIndex := 6, attributes := #[] }] 33 0 #[] #[])
  fields := #[]
  methods := #[k0m0]
  instanceTypes := #[]
  staticTypes := #[]
  resolved := Array.replicate 124 none
  statics := none }

def pool1 : Array CpInfo := pool [(2, .class_ 4), (1, u "java/lang/Object"), (0, u "<init>"), (0, u "()V"), (0, .class_ 8), (0, u "java/lang/String"), (0, .methodref 7 10), (0, .nameAndType 5 11), (0, u "([C)V"), (0, .methodref 13 14), (0, .class_ 15), (0, .nameAndType 16 17), (0, u "portcullis/catalog/Scope"), (0, u "common"), (0, u "()Z"), (0, .methodref 13 19), (0, .nameAndType 20 21), (0, u "container"), (0, u "()Ljava/lang/String;"), (0, .methodref 7 23), (0, .nameAndType 24 25), (0, u "equals"), (0, u "(Ljava/lang/Object;)Z"), (0, .methodref 27 28), (0, .class_ 29), (0, .nameAndType 30 31), (0, u "portcullis/catalog/ScopeGrantScopesPinLaw"), (0, u "draw"), (0, u "(IIII)Ljava/lang/String;"), (0, .methodref 13 33), (0, .nameAndType 5 34), (0, u "(Ljava/lang/String;)V"), (0, .methodref 13 36), (0, .nameAndType 37 38), (0, u "grantScopes"), (0, u "()Ljava/util/List;"), (0, .interfaceMethodref 40 41), (0, .class_ 42), (0, .nameAndType 43 44), (0, u "java/util/List"), (0, u "size"), (0, u "()I"), (0, .interfaceMethodref 40 46), (0, .nameAndType 47 48), (0, u "get"), (0, u "(I)Ljava/lang/Object;"), (0, .methodref 27 50), (0, .nameAndType 51 52), (0, u "isLocalNamed"), (0, u "(Lportcullis/catalog/Scope;Ljava/lang/String;)Z"), (3, u "law"), (0, u "(IIII)Z")] 2

def k1m0 : Method := { name := "<init>", desc := "()V", sig := { parameters := [], returnType := none }, accessFlags := 1, code := none }
def k1c1 : Code := { maxStack := 6, maxLocals := 7, code := method_2_code, exceptionTable := #[], attributes := #[] }
def k1m1 : Method := { name := "draw", desc := "(IIII)Ljava/lang/String;", sig := { parameters := [.int, .int, .int, .int], returnType := some (.object "java/lang/String") }, accessFlags := 10, code := some k1c1 }
def k1c2 : Code := { maxStack := 2, maxLocals := 2, code := method_3_code, exceptionTable := #[], attributes := #[] }
def k1m2 : Method := { name := "isLocalNamed", desc := "(Lportcullis/catalog/Scope;Ljava/lang/String;)Z", sig := { parameters := [(.object "portcullis/catalog/Scope"), (.object "java/lang/String")], returnType := some .boolean }, accessFlags := 10, code := some k1c2 }
def k1c3 : Code := { maxStack := 4, maxLocals := 11, code := code, exceptionTable := #[], attributes := #[] }
def k1m3 : Method := { name := "law", desc := "(IIII)Z", sig := { parameters := [.int, .int, .int, .int], returnType := some .boolean }, accessFlags := 9, code := some k1c3 }
/-- portcullis/catalog/ScopeGrantScopesPinLaw -/
def k1 : Class := { plain "portcullis/catalog/ScopeGrantScopesPinLaw" (some 0) with
  accessFlags := 49
  interfaces := #[]
  cf := some (fileOf pool1 27 #[] #[{ accessFlags := 1, nameIndex := 5, descriptorIndex := 6, attributes := #[] }, { accessFlags := 10, nameIndex := 30, descriptorIndex := 31, attributes := #[] }, { accessFlags := 10, nameIndex := 51, descriptorIndex := 52, attributes := #[] }, { accessFlags := 9, nameIndex := 56, descriptorIndex := 57, attributes := #[] }] 49 2 #[] #[])
  fields := #[]
  methods := #[k1m0, k1m1, k1m2, k1m3]
  instanceTypes := #[]
  staticTypes := #[]
  resolved := Array.replicate 60 none
  statics := none }

def pool2 : Array CpInfo := pool [(1, .class_ 2), (0, u "java/io/Serializable"), (0, .class_ 4), (0, u "java/lang/Object")] 2

/-- java/io/Serializable -/
def k2 : Class := { plain "java/io/Serializable" (some 0) with
  accessFlags := 1537
  interfaces := #[]
  cf := some (fileOf pool2 1 #[] #[] 1537 3 #[] #[])
  fields := #[]
  methods := #[]
  instanceTypes := #[]
  staticTypes := #[]
  resolved := Array.replicate 7 none
  statics := none }

def pool3 : Array CpInfo := pool [(1, .class_ 2), (0, u "java/lang/Comparable"), (0, .class_ 4), (0, u "java/lang/Object")] 7

/-- java/lang/Comparable -/
def k3 : Class := { plain "java/lang/Comparable" (some 0) with
  accessFlags := 1537
  interfaces := #[]
  cf := some (fileOf pool3 1 #[] #[] 1537 3 #[] #[])
  fields := #[]
  methods := #[]
  instanceTypes := #[]
  staticTypes := #[]
  resolved := Array.replicate 12 none
  statics := none }

def pool4 : Array CpInfo := pool [(2, .class_ 4), (1, u "java/lang/CharSequence"), (42, .class_ 48), (0, u "java/lang/CharSequence$1CodePointIterator"), (10, .class_ 60), (0, u "java/lang/CharSequence$1CharIterator"), (5, .class_ 67), (0, u "java/lang/Object")] 63

/-- java/lang/CharSequence -/
def k4 : Class := { plain "java/lang/CharSequence" (some 0) with
  accessFlags := 1537
  interfaces := #[]
  cf := some (fileOf pool4 2 #[.nestMembers #[47, 59]] #[] 1537 66 #[] #[])
  fields := #[]
  methods := #[]
  instanceTypes := #[]
  staticTypes := #[]
  resolved := Array.replicate 131 none
  statics := none }

def pool5 : Array CpInfo := pool [(1, .class_ 2), (0, u "java/lang/constant/Constable"), (0, .class_ 4), (0, u "java/lang/Object")] 6

/-- java/lang/constant/Constable -/
def k5 : Class := { plain "java/lang/constant/Constable" (some 0) with
  accessFlags := 1537
  interfaces := #[]
  cf := some (fileOf pool5 1 #[] #[] 1537 3 #[] #[])
  fields := #[]
  methods := #[]
  instanceTypes := #[]
  staticTypes := #[]
  resolved := Array.replicate 11 none
  statics := none }

def pool6 : Array CpInfo := pool [(1, .class_ 2), (0, u "java/lang/constant/ConstantDesc"), (0, .class_ 4), (0, u "java/lang/Object")] 32

/-- java/lang/constant/ConstantDesc -/
def k6 : Class := { plain "java/lang/constant/ConstantDesc" (some 0) with
  accessFlags := 1537
  interfaces := #[]
  cf := some (fileOf pool6 1 #[] #[] 1537 3 #[] #[])
  fields := #[]
  methods := #[]
  instanceTypes := #[]
  staticTypes := #[]
  resolved := Array.replicate 37 none
  statics := none }

def pool7 : Array CpInfo := pool [(1, .methodref 2 3), (0, .class_ 4), (0, .nameAndType 5 6), (0, u "java/lang/Object"), (0, u "<init>"), (0, u "()V"), (0, .string 8), (0, u ""), (0, .fieldref 10 11), (0, .class_ 12), (0, .nameAndType 13 14), (0, u "java/lang/String"), (0, u "value"), (0, u "[B"), (0, .fieldref 10 16), (0, .nameAndType 17 18), (0, u "coder"), (0, u "B"), (2, u "hash"), (0, u "I"), (2, u "hashIsZero"), (0, u "Z"), (0, .methodref 10 28), (0, .nameAndType 5 29), (0, u "([CIILjava/lang/Void;)V"), (8, .fieldref 10 39), (0, .nameAndType 40 26), (0, u "COMPACT_STRINGS"), (1, .class_ 44), (1, u "java/lang/StringUTF16"), (0, u "compress"), (1, .methodref 42 48), (0, .nameAndType 49 50), (0, u "coderFromArrayLen"), (0, u "([BI)B"), (126, .methodref 42 178), (0, .nameAndType 45 179), (0, u "([CII)[B"), (363, u "equals"), (29, u "(Ljava/lang/Object;)Z"), (1, .class_ 576), (0, u "java/lang/CharSequence"), (22, u "CASE_INSENSITIVE_ORDER"), (0, u "Ljava/util/Comparator;"), (409, u "([C)V"), (90, u "serialPersistentFields"), (0, u "[Ljava/io/ObjectStreamField;"), (0, .class_ 1104), (0, u "java/lang/String$CaseInsensitiveComparator"), (1, .class_ 1107), (0, u "java/io/Serializable"), (0, .class_ 1109), (0, u "java/lang/Comparable"), (0, .class_ 1111), (0, u "java/lang/constant/Constable"), (0, .class_ 1113), (0, u "java/lang/constant/ConstantDesc"), (2, u "serialVersionUID"), (0, u "J"), (3, u "REPL"), (0, u "C"), (2, u "LATIN1"), (1, u "UTF16")] 323

def k7m0 : Method := { name := "<init>", desc := "()V", sig := { parameters := [], returnType := none }, accessFlags := 1, code := none }
def k7c1 : Code := { maxStack := 5, maxLocals := 2, code := jdk_42_method_3_code, exceptionTable := #[], attributes := #[] }
def k7m1 : Method := { name := "<init>", desc := "([C)V", sig := { parameters := [(.array .char)], returnType := none }, accessFlags := 1, code := some k7c1 }
def k7c2 : Code := { maxStack := 2, maxLocals := 3, code := jdk_42_method_66_code, exceptionTable := #[], attributes := #[] }
def k7m2 : Method := { name := "equals", desc := "(Ljava/lang/Object;)Z", sig := { parameters := [(.object "java/lang/Object")], returnType := some .boolean }, accessFlags := 1, code := some k7c2 }
def k7c3 : Code := { maxStack := 4, maxLocals := 6, code := jdk_42_method_149_code, exceptionTable := #[], attributes := #[] }
def k7m3 : Method := { name := "<init>", desc := "([CIILjava/lang/Void;)V", sig := { parameters := [(.array .char), .int, .int, (.object "java/lang/Void")], returnType := none }, accessFlags := 2, code := some k7c3 }
/-- java/lang/String -/
def k7 : Class := { plain "java/lang/String" (some 0) with
  accessFlags := 49
  interfaces := #[2, 3, 4, 5, 6]
  cf := some (fileOf pool7 10 #[.nestMembers #[1103]] #[{ accessFlags := 1, nameIndex := 5, descriptorIndex := 6, attributes := #[] }, { accessFlags := 1, nameIndex := 5, descriptorIndex := 1010, attributes := #[] }, { accessFlags := 1, nameIndex := 543, descriptorIndex := 573, attributes := #[] }, { accessFlags := 2, nameIndex := 5, descriptorIndex := 29, attributes := #[] }] 49 2 #[1106, 1108, 575, 1110, 1112] #[{ accessFlags := 18, nameIndex := 13, descriptorIndex := 14, attributes := #[] }, { accessFlags := 18, nameIndex := 17, descriptorIndex := 18, attributes := #[] }, { accessFlags := 2, nameIndex := 21, descriptorIndex := 22, attributes := #[] }, { accessFlags := 2, nameIndex := 25, descriptorIndex := 26, attributes := #[] }, { accessFlags := 26, nameIndex := 1116, descriptorIndex := 1117, attributes := #[] }, { accessFlags := 24, nameIndex := 40, descriptorIndex := 26, attributes := #[] }, { accessFlags := 26, nameIndex := 1101, descriptorIndex := 1102, attributes := #[] }, { accessFlags := 26, nameIndex := 1121, descriptorIndex := 1122, attributes := #[] }, { accessFlags := 25, nameIndex := 599, descriptorIndex := 600, attributes := #[] }, { accessFlags := 24, nameIndex := 1125, descriptorIndex := 18, attributes := #[] }, { accessFlags := 24, nameIndex := 1127, descriptorIndex := 18, attributes := #[] }])
  fields := #[{ name := "value", type := (.array .byte), accessFlags := 18, slot := 0, constantValue := 0 }, { name := "coder", type := .byte, accessFlags := 18, slot := 1, constantValue := 0 }, { name := "hash", type := .int, accessFlags := 2, slot := 2, constantValue := 0 }, { name := "hashIsZero", type := .boolean, accessFlags := 2, slot := 3, constantValue := 0 }, { name := "serialVersionUID", type := .long, accessFlags := 26, slot := 0, constantValue := 0 }, { name := "COMPACT_STRINGS", type := .boolean, accessFlags := 24, slot := 1, constantValue := 0 }, { name := "serialPersistentFields", type := (.array (.object "java/io/ObjectStreamField")), accessFlags := 26, slot := 2, constantValue := 0 }, { name := "REPL", type := .char, accessFlags := 26, slot := 3, constantValue := 0 }, { name := "CASE_INSENSITIVE_ORDER", type := (.object "java/util/Comparator"), accessFlags := 25, slot := 4, constantValue := 0 }, { name := "LATIN1", type := .byte, accessFlags := 24, slot := 5, constantValue := 0 }, { name := "UTF16", type := .byte, accessFlags := 24, slot := 6, constantValue := 0 }]
  methods := #[k7m0, k7m1, k7m2, k7m3]
  instanceTypes := #[(.array .byte), .byte, .int, .boolean]
  staticTypes := #[.long, .boolean, (.array (.object "java/io/ObjectStreamField")), .char, (.object "java/util/Comparator"), .byte, .byte]
  resolved := Array.replicate 1451 none
  statics := some 0 }

def pool8 : Array CpInfo := pool [(1, .methodref 2 3), (0, .class_ 4), (0, .nameAndType 5 6), (0, u "java/lang/Object"), (0, u "<init>"), (0, u "()V"), (0, .class_ 8), (0, u "java/lang/Record")] 13

def k8c0 : Code := { maxStack := 1, maxLocals := 1, code := jdk_30_method_1_code, exceptionTable := #[], attributes := #[] }
def k8m0 : Method := { name := "<init>", desc := "()V", sig := { parameters := [], returnType := none }, accessFlags := 4, code := some k8c0 }
/-- java/lang/Record -/
def k8 : Class := { plain "java/lang/Record" (some 0) with
  accessFlags := 1057
  interfaces := #[]
  cf := some (fileOf pool8 7 #[] #[{ accessFlags := 4, nameIndex := 5, descriptorIndex := 6, attributes := #[] }] 1057 2 #[] #[])
  fields := #[]
  methods := #[k8m0]
  instanceTypes := #[]
  staticTypes := #[]
  resolved := Array.replicate 22 none
  statics := none }

def pool9 : Array CpInfo := pool [(1, .methodref 2 3), (0, .class_ 4), (0, .nameAndType 5 6), (0, u "java/lang/Record"), (0, u "<init>"), (0, u "()V"), (0, .fieldref 8 9), (0, .class_ 10), (0, .nameAndType 11 12), (0, u "portcullis/catalog/Scope"), (0, u "container"), (0, u "Ljava/lang/String;"), (11, u "(Ljava/lang/String;)V"), (0, .methodref 8 26), (0, .nameAndType 27 28), (0, u "common"), (0, u "()Z"), (0, .fieldref 8 30), (0, .nameAndType 31 32), (0, u "COMMON"), (0, u "Lportcullis/catalog/Scope;"), (0, .interfaceMethodref 34 35), (0, .class_ 36), (0, .nameAndType 37 38), (0, u "java/util/List"), (0, u "of"), (0, u "(Ljava/lang/Object;)Ljava/util/List;"), (0, .interfaceMethodref 34 40), (0, .nameAndType 37 41), (0, u "(Ljava/lang/Object;Ljava/lang/Object;)Ljava/util/List;"), (43, u "COMMON_WRITTEN"), (1, u "LOCAL_PREFIX"), (4, u "grantScopes"), (0, u "()Ljava/util/List;"), (3, u "()Ljava/lang/String;")] 28

def k9c0 : Code := { maxStack := 2, maxLocals := 2, code := prog_6_method_1_code, exceptionTable := #[], attributes := #[] }
def k9m0 : Method := { name := "<init>", desc := "(Ljava/lang/String;)V", sig := { parameters := [(.object "java/lang/String")], returnType := none }, accessFlags := 1, code := some k9c0 }
def k9c1 : Code := { maxStack := 1, maxLocals := 1, code := prog_6_method_3_code, exceptionTable := #[], attributes := #[] }
def k9m1 : Method := { name := "common", desc := "()Z", sig := { parameters := [], returnType := some .boolean }, accessFlags := 1, code := some k9c1 }
def k9c2 : Code := { maxStack := 2, maxLocals := 1, code := prog_6_method_4_code, exceptionTable := #[], attributes := #[] }
def k9m2 : Method := { name := "grantScopes", desc := "()Ljava/util/List;", sig := { parameters := [], returnType := some (.object "java/util/List") }, accessFlags := 1, code := some k9c2 }
def k9c3 : Code := { maxStack := 1, maxLocals := 1, code := prog_6_method_10_code, exceptionTable := #[], attributes := #[] }
def k9m3 : Method := { name := "container", desc := "()Ljava/lang/String;", sig := { parameters := [], returnType := some (.object "java/lang/String") }, accessFlags := 1, code := some k9c3 }
/-- portcullis/catalog/Scope -/
def k9 : Class := { plain "portcullis/catalog/Scope" (some 8) with
  accessFlags := 49
  interfaces := #[]
  cf := some (fileOf pool9 8 #[] #[{ accessFlags := 1, nameIndex := 5, descriptorIndex := 24, attributes := #[] }, { accessFlags := 1, nameIndex := 27, descriptorIndex := 28, attributes := #[] }, { accessFlags := 1, nameIndex := 92, descriptorIndex := 93, attributes := #[] }, { accessFlags := 1, nameIndex := 11, descriptorIndex := 97, attributes := #[] }] 49 2 #[] #[{ accessFlags := 18, nameIndex := 11, descriptorIndex := 12, attributes := #[] }, { accessFlags := 25, nameIndex := 31, descriptorIndex := 32, attributes := #[] }, { accessFlags := 26, nameIndex := 85, descriptorIndex := 12, attributes := #[] }, { accessFlags := 26, nameIndex := 87, descriptorIndex := 12, attributes := #[] }])
  fields := #[{ name := "container", type := (.object "java/lang/String"), accessFlags := 18, slot := 0, constantValue := 0 }, { name := "COMMON", type := (.object "portcullis/catalog/Scope"), accessFlags := 25, slot := 0, constantValue := 0 }, { name := "COMMON_WRITTEN", type := (.object "java/lang/String"), accessFlags := 26, slot := 1, constantValue := 0 }, { name := "LOCAL_PREFIX", type := (.object "java/lang/String"), accessFlags := 26, slot := 2, constantValue := 0 }]
  methods := #[k9m0, k9m1, k9m2, k9m3]
  instanceTypes := #[(.object "java/lang/String")]
  staticTypes := #[(.object "portcullis/catalog/Scope"), (.object "java/lang/String"), (.object "java/lang/String")]
  resolved := Array.replicate 126 none
  statics := some 1 }

def pool10 : Array CpInfo := pool [(8, .class_ 10), (1, u "java/lang/Iterable"), (24, .class_ 36), (0, u "java/lang/Object")] 25

/-- java/lang/Iterable -/
def k10 : Class := { plain "java/lang/Iterable" (some 0) with
  accessFlags := 1537
  interfaces := #[]
  cf := some (fileOf pool10 8 #[] #[] 1537 35 #[] #[])
  fields := #[]
  methods := #[]
  instanceTypes := #[]
  staticTypes := #[]
  resolved := Array.replicate 62 none
  statics := none }

def pool11 : Array CpInfo := pool [(10, .class_ 12), (1, u "java/util/Collection"), (47, .class_ 61), (0, u "java/lang/Object"), (0, .class_ 63), (0, u "java/lang/Iterable")] 51

/-- java/util/Collection -/
def k11 : Class := { plain "java/util/Collection" (some 0) with
  accessFlags := 1537
  interfaces := #[10]
  cf := some (fileOf pool11 10 #[] #[] 1537 60 #[62] #[])
  fields := #[]
  methods := #[]
  instanceTypes := #[]
  staticTypes := #[]
  resolved := Array.replicate 115 none
  statics := none }

def pool12 : Array CpInfo := pool [(8, .class_ 10), (1, u "java/util/SequencedCollection"), (15, .class_ 27), (0, u "java/lang/Object"), (0, .class_ 29), (0, u "java/util/Collection")] 27

/-- java/util/SequencedCollection -/
def k12 : Class := { plain "java/util/SequencedCollection" (some 0) with
  accessFlags := 1537
  interfaces := #[11]
  cf := some (fileOf pool12 8 #[] #[] 1537 26 #[28] #[])
  fields := #[]
  methods := #[]
  instanceTypes := #[]
  staticTypes := #[]
  resolved := Array.replicate 57 none
  statics := none }

def pool13 : Array CpInfo := pool [(8, .class_ 10), (1, u "java/util/List"), (20, u "(Ljava/lang/Object;)V"), (16, u "<init>"), (26, u "get"), (0, u "(I)Ljava/lang/Object;"), (2, u "size"), (0, u "()I"), (7, u "of"), (7, .class_ 97), (0, u "java/util/ImmutableCollections$List12"), (0, .methodref 96 99), (0, .nameAndType 48 31), (0, .methodref 96 101), (0, .nameAndType 48 102), (0, u "(Ljava/lang/Object;Ljava/lang/Object;)V"), (0, .class_ 104), (0, u "java/lang/Object"), (15, .class_ 121), (0, u "java/util/SequencedCollection"), (76, u "(Ljava/lang/Object;)Ljava/util/List;"), (2, u "(Ljava/lang/Object;Ljava/lang/Object;)Ljava/util/List;")] 49

def k13m0 : Method := { name := "size", desc := "()I", sig := { parameters := [], returnType := some .int }, accessFlags := 1025, code := none }
def k13m1 : Method := { name := "get", desc := "(I)Ljava/lang/Object;", sig := { parameters := [.int], returnType := some (.object "java/lang/Object") }, accessFlags := 1025, code := none }
def k13c2 : Code := { maxStack := 3, maxLocals := 1, code := jdk_40_method_37_code, exceptionTable := #[], attributes := #[] }
def k13m2 : Method := { name := "of", desc := "(Ljava/lang/Object;)Ljava/util/List;", sig := { parameters := [(.object "java/lang/Object")], returnType := some (.object "java/util/List") }, accessFlags := 9, code := some k13c2 }
def k13c3 : Code := { maxStack := 4, maxLocals := 2, code := jdk_40_method_38_code, exceptionTable := #[], attributes := #[] }
def k13m3 : Method := { name := "of", desc := "(Ljava/lang/Object;Ljava/lang/Object;)Ljava/util/List;", sig := { parameters := [(.object "java/lang/Object"), (.object "java/lang/Object")], returnType := some (.object "java/util/List") }, accessFlags := 9, code := some k13c3 }
/-- java/util/List -/
def k13 : Class := { plain "java/util/List" (some 0) with
  accessFlags := 1537
  interfaces := #[12]
  cf := some (fileOf pool13 8 #[] #[{ accessFlags := 1025, nameIndex := 79, descriptorIndex := 80, attributes := #[] }, { accessFlags := 1025, nameIndex := 75, descriptorIndex := 76, attributes := #[] }, { accessFlags := 9, nameIndex := 88, descriptorIndex := 198, attributes := #[] }, { accessFlags := 9, nameIndex := 88, descriptorIndex := 201, attributes := #[] }] 1537 103 #[120] #[])
  fields := #[]
  methods := #[k13m0, k13m1, k13m2, k13m3]
  instanceTypes := #[]
  staticTypes := #[]
  resolved := Array.replicate 251 none
  statics := none }

def pool14 : Array CpInfo := pool [(1, .methodref 2 3), (0, .class_ 4), (0, .nameAndType 5 6), (0, u "java/lang/Object"), (0, u "<init>"), (0, u "()V"), (1, .class_ 10), (1, u "java/util/AbstractCollection"), (66, .class_ 78), (0, u "java/util/Collection")] 81

def k14c0 : Code := { maxStack := 1, maxLocals := 1, code := jdk_22_method_1_code, exceptionTable := #[], attributes := #[] }
def k14m0 : Method := { name := "<init>", desc := "()V", sig := { parameters := [], returnType := none }, accessFlags := 4, code := some k14c0 }
/-- java/util/AbstractCollection -/
def k14 : Class := { plain "java/util/AbstractCollection" (some 0) with
  accessFlags := 1057
  interfaces := #[11]
  cf := some (fileOf pool14 8 #[] #[{ accessFlags := 4, nameIndex := 5, descriptorIndex := 6, attributes := #[] }] 1057 2 #[77] #[])
  fields := #[]
  methods := #[k14m0]
  instanceTypes := #[]
  staticTypes := #[]
  resolved := Array.replicate 160 none
  statics := none }

def pool15 : Array CpInfo := pool [(1, .methodref 2 3), (0, .class_ 4), (0, .nameAndType 5 6), (0, u "java/util/AbstractCollection"), (0, u "<init>"), (0, u "()V"), (1, .class_ 10), (1, u "java/util/ImmutableCollections"), (2, .class_ 14), (0, u "java/util/ImmutableCollections$AbstractImmutableCollection")] 41

def k15c0 : Code := { maxStack := 1, maxLocals := 1, code := jdk_47_method_1_code, exceptionTable := #[], attributes := #[] }
def k15m0 : Method := { name := "<init>", desc := "()V", sig := { parameters := [], returnType := none }, accessFlags := 0, code := some k15c0 }
/-- java/util/ImmutableCollections$AbstractImmutableCollection -/
def k15 : Class := { plain "java/util/ImmutableCollections$AbstractImmutableCollection" (some 14) with
  accessFlags := 1056
  interfaces := #[]
  cf := some (fileOf pool15 13 #[.nestHost 8] #[{ accessFlags := 0, nameIndex := 5, descriptorIndex := 6, attributes := #[] }] 1056 2 #[] #[])
  fields := #[]
  methods := #[k15m0]
  instanceTypes := #[]
  staticTypes := #[]
  resolved := Array.replicate 56 none
  statics := none }

def pool16 : Array CpInfo := pool [(1, .class_ 2), (0, u "java/util/RandomAccess"), (0, .class_ 4), (0, u "java/lang/Object")] 2

/-- java/util/RandomAccess -/
def k16 : Class := { plain "java/util/RandomAccess" (some 0) with
  accessFlags := 1537
  interfaces := #[]
  cf := some (fileOf pool16 1 #[] #[] 1537 3 #[] #[])
  fields := #[]
  methods := #[]
  instanceTypes := #[]
  staticTypes := #[]
  resolved := Array.replicate 7 none
  statics := none }

def pool17 : Array CpInfo := pool [(1, .methodref 2 3), (0, .class_ 4), (0, .nameAndType 5 6), (0, u "java/util/ImmutableCollections$AbstractImmutableCollection"), (0, u "<init>"), (0, u "()V"), (1, .class_ 10), (1, u "java/util/ImmutableCollections"), (3, .class_ 16), (1, u "java/util/ImmutableCollections$AbstractImmutableList"), (60, .class_ 78), (0, u "java/util/List"), (45, .class_ 125), (0, u "java/util/RandomAccess")] 70

def k17c0 : Code := { maxStack := 1, maxLocals := 1, code := jdk_46_method_1_code, exceptionTable := #[], attributes := #[] }
def k17m0 : Method := { name := "<init>", desc := "()V", sig := { parameters := [], returnType := none }, accessFlags := 0, code := some k17c0 }
/-- java/util/ImmutableCollections$AbstractImmutableList -/
def k17 : Class := { plain "java/util/ImmutableCollections$AbstractImmutableList" (some 15) with
  accessFlags := 1056
  interfaces := #[13, 16]
  cf := some (fileOf pool17 14 #[.nestHost 8] #[{ accessFlags := 0, nameIndex := 5, descriptorIndex := 6, attributes := #[] }] 1056 2 #[77, 124] #[])
  fields := #[]
  methods := #[k17m0]
  instanceTypes := #[]
  staticTypes := #[]
  resolved := Array.replicate 196 none
  statics := none }

def pool18 : Array CpInfo := pool [(1, .methodref 2 3), (0, .class_ 4), (0, .nameAndType 5 6), (0, u "java/util/ImmutableCollections$AbstractImmutableList"), (0, u "<init>"), (0, u "()V"), (0, .methodref 8 9), (0, .class_ 10), (0, .nameAndType 11 12), (0, u "java/util/Objects"), (0, u "requireNonNull"), (0, u "(Ljava/lang/Object;)Ljava/lang/Object;"), (0, .fieldref 14 15), (0, .class_ 16), (0, .nameAndType 17 18), (0, u "java/util/ImmutableCollections$List12"), (0, u "e0"), (0, u "Ljava/lang/Object;"), (0, .fieldref 20 21), (0, .class_ 22), (0, .nameAndType 23 18), (0, u "java/util/ImmutableCollections"), (0, u "EMPTY"), (0, .fieldref 14 25), (0, .nameAndType 26 18), (0, u "e1"), (24, u "size"), (0, u "()I"), (17, .class_ 71), (0, u "java/io/Serializable"), (4, u "(Ljava/lang/Object;)V"), (8, u "(Ljava/lang/Object;Ljava/lang/Object;)V"), (4, u "get"), (0, u "(I)Ljava/lang/Object;")] 33

def k18c0 : Code := { maxStack := 2, maxLocals := 2, code := jdk_44_method_1_code, exceptionTable := #[], attributes := #[] }
def k18m0 : Method := { name := "<init>", desc := "(Ljava/lang/Object;)V", sig := { parameters := [(.object "java/lang/Object")], returnType := none }, accessFlags := 0, code := some k18c0 }
def k18c1 : Code := { maxStack := 2, maxLocals := 3, code := jdk_44_method_2_code, exceptionTable := #[], attributes := #[] }
def k18m1 : Method := { name := "<init>", desc := "(Ljava/lang/Object;Ljava/lang/Object;)V", sig := { parameters := [(.object "java/lang/Object"), (.object "java/lang/Object")], returnType := none }, accessFlags := 0, code := some k18c1 }
def k18c2 : Code := { maxStack := 2, maxLocals := 1, code := jdk_44_method_3_code, exceptionTable := #[], attributes := #[] }
def k18m2 : Method := { name := "size", desc := "()I", sig := { parameters := [], returnType := some .int }, accessFlags := 1, code := some k18c2 }
def k18c3 : Code := { maxStack := 2, maxLocals := 2, code := jdk_44_method_5_code, exceptionTable := #[], attributes := #[] }
def k18m3 : Method := { name := "get", desc := "(I)Ljava/lang/Object;", sig := { parameters := [.int], returnType := some (.object "java/lang/Object") }, accessFlags := 1, code := some k18c3 }
/-- java/util/ImmutableCollections$List12 -/
def k18 : Class := { plain "java/util/ImmutableCollections$List12" (some 17) with
  accessFlags := 48
  interfaces := #[2]
  cf := some (fileOf pool18 14 #[.nestHost 20] #[{ accessFlags := 0, nameIndex := 5, descriptorIndex := 76, attributes := #[] }, { accessFlags := 0, nameIndex := 5, descriptorIndex := 85, attributes := #[] }, { accessFlags := 1, nameIndex := 51, descriptorIndex := 52, attributes := #[] }, { accessFlags := 1, nameIndex := 90, descriptorIndex := 91, attributes := #[] }] 48 2 #[70] #[{ accessFlags := 18, nameIndex := 17, descriptorIndex := 18, attributes := #[] }, { accessFlags := 18, nameIndex := 26, descriptorIndex := 18, attributes := #[] }])
  fields := #[{ name := "e0", type := (.object "java/lang/Object"), accessFlags := 18, slot := 0, constantValue := 0 }, { name := "e1", type := (.object "java/lang/Object"), accessFlags := 18, slot := 1, constantValue := 0 }]
  methods := #[k18m0, k18m1, k18m2, k18m3]
  instanceTypes := #[(.object "java/lang/Object"), (.object "java/lang/Object")]
  staticTypes := #[]
  resolved := Array.replicate 125 none
  statics := none }

def pool19 : Array CpInfo := pool [(2, .class_ 4), (1, u "java/lang/Object"), (0, u "<init>"), (0, u "()V"), (35, .class_ 44), (1, u "java/util/Objects"), (0, u "requireNonNull"), (0, u "(Ljava/lang/Object;)Ljava/lang/Object;")] 137

def k19m0 : Method := { name := "<init>", desc := "()V", sig := { parameters := [], returnType := none }, accessFlags := 2, code := none }
def k19c1 : Code := { maxStack := 2, maxLocals := 1, code := jdk_31_method_10_code, exceptionTable := #[], attributes := #[] }
def k19m1 : Method := { name := "requireNonNull", desc := "(Ljava/lang/Object;)Ljava/lang/Object;", sig := { parameters := [(.object "java/lang/Object")], returnType := some (.object "java/lang/Object") }, accessFlags := 9, code := some k19c1 }
/-- java/util/Objects -/
def k19 : Class := { plain "java/util/Objects" (some 0) with
  accessFlags := 49
  interfaces := #[]
  cf := some (fileOf pool19 42 #[] #[{ accessFlags := 2, nameIndex := 5, descriptorIndex := 6, attributes := #[] }, { accessFlags := 9, nameIndex := 45, descriptorIndex := 46, attributes := #[] }] 49 2 #[] #[])
  fields := #[]
  methods := #[k19m0, k19m1]
  instanceTypes := #[]
  staticTypes := #[]
  resolved := Array.replicate 184 none
  statics := none }

def pool20 : Array CpInfo := pool [(2, .class_ 4), (1, u "java/lang/Object"), (0, u "<init>"), (0, u "()V"), (3, .class_ 11), (0, u "java/util/ImmutableCollections$List12"), (0, .class_ 13), (0, u "java/util/ImmutableCollections$ListN"), (3, u "Z"), (29, .class_ 49), (1, u "java/util/ImmutableCollections"), (0, u "$assertionsDisabled"), (5, u "[Ljava/lang/Object;"), (5, u "EMPTY_LIST"), (0, u "Ljava/util/ImmutableCollections$ListN;"), (8, u "EMPTY_LIST_NULLS"), (22, u "SALT32L"), (0, u "J"), (2, u "REVERSE"), (6, u "archivedObjects"), (2, u "EMPTY"), (0, u "Ljava/lang/Object;"), (0, .class_ 112), (0, u "java/util/ImmutableCollections$SetN"), (5, u "EMPTY_SET"), (0, u "Ljava/util/ImmutableCollections$SetN;"), (0, .class_ 121), (0, u "java/util/ImmutableCollections$MapN"), (3, u "EMPTY_MAP"), (0, u "Ljava/util/ImmutableCollections$MapN;"), (4, u "EXPAND_FACTOR"), (0, u "I"), (36, .class_ 170), (0, u "java/util/ImmutableCollections$MapN$MapNIterator"), (0, .class_ 172), (0, u "java/util/ImmutableCollections$MapN$1"), (0, .class_ 174), (0, u "java/util/ImmutableCollections$Map1"), (0, .class_ 176), (0, u "java/util/ImmutableCollections$AbstractImmutableMap"), (0, .class_ 178), (0, u "java/util/ImmutableCollections$SetN$SetNIterator"), (0, .class_ 180), (0, u "java/util/ImmutableCollections$Set12"), (0, .class_ 182), (0, u "java/util/ImmutableCollections$Set12$1"), (0, .class_ 184), (0, u "java/util/ImmutableCollections$AbstractImmutableSet"), (0, .class_ 186), (0, u "java/util/ImmutableCollections$SubList"), (0, .class_ 188), (0, u "java/util/ImmutableCollections$ListItr"), (0, .class_ 190), (0, u "java/util/ImmutableCollections$AbstractImmutableList"), (0, .class_ 192), (0, u "java/util/ImmutableCollections$AbstractImmutableCollection"), (0, .class_ 194), (0, u "java/util/ImmutableCollections$Access"), (0, .class_ 196), (0, u "java/util/ImmutableCollections$Access$1")] 16

def k20m0 : Method := { name := "<init>", desc := "()V", sig := { parameters := [], returnType := none }, accessFlags := 2, code := none }
/-- java/util/ImmutableCollections -/
def k20 : Class := { plain "java/util/ImmutableCollections" (some 0) with
  accessFlags := 32
  interfaces := #[]
  cf := some (fileOf pool20 47 #[.nestMembers #[120, 169, 171, 173, 175, 111, 177, 179, 181, 183, 12, 10, 185, 187, 189, 191, 193, 195]] #[{ accessFlags := 2, nameIndex := 5, descriptorIndex := 6, attributes := #[] }] 32 2 #[] #[{ accessFlags := 26, nameIndex := 95, descriptorIndex := 96, attributes := #[] }, { accessFlags := 26, nameIndex := 99, descriptorIndex := 17, attributes := #[] }, { accessFlags := 10, nameIndex := 106, descriptorIndex := 56, attributes := #[] }, { accessFlags := 26, nameIndex := 109, descriptorIndex := 110, attributes := #[] }, { accessFlags := 24, nameIndex := 62, descriptorIndex := 63, attributes := #[] }, { accessFlags := 24, nameIndex := 72, descriptorIndex := 63, attributes := #[] }, { accessFlags := 24, nameIndex := 118, descriptorIndex := 119, attributes := #[] }, { accessFlags := 24, nameIndex := 125, descriptorIndex := 126, attributes := #[] }, { accessFlags := 24, nameIndex := 131, descriptorIndex := 132, attributes := #[] }, { accessFlags := 4120, nameIndex := 50, descriptorIndex := 17, attributes := #[] }])
  fields := #[{ name := "SALT32L", type := .long, accessFlags := 26, slot := 0, constantValue := 0 }, { name := "REVERSE", type := .boolean, accessFlags := 26, slot := 1, constantValue := 0 }, { name := "archivedObjects", type := (.array (.object "java/lang/Object")), accessFlags := 10, slot := 2, constantValue := 0 }, { name := "EMPTY", type := (.object "java/lang/Object"), accessFlags := 26, slot := 3, constantValue := 0 }, { name := "EMPTY_LIST", type := (.object "java/util/ImmutableCollections$ListN"), accessFlags := 24, slot := 4, constantValue := 0 }, { name := "EMPTY_LIST_NULLS", type := (.object "java/util/ImmutableCollections$ListN"), accessFlags := 24, slot := 5, constantValue := 0 }, { name := "EMPTY_SET", type := (.object "java/util/ImmutableCollections$SetN"), accessFlags := 24, slot := 6, constantValue := 0 }, { name := "EMPTY_MAP", type := (.object "java/util/ImmutableCollections$MapN"), accessFlags := 24, slot := 7, constantValue := 0 }, { name := "EXPAND_FACTOR", type := .int, accessFlags := 24, slot := 8, constantValue := 0 }, { name := "$assertionsDisabled", type := .boolean, accessFlags := 4120, slot := 9, constantValue := 0 }]
  methods := #[k20m0]
  instanceTypes := #[]
  staticTypes := #[.long, .boolean, (.array (.object "java/lang/Object")), (.object "java/lang/Object"), (.object "java/util/ImmutableCollections$ListN"), (.object "java/util/ImmutableCollections$ListN"), (.object "java/util/ImmutableCollections$SetN"), (.object "java/util/ImmutableCollections$MapN"), .int, .boolean]
  resolved := Array.replicate 213 none
  statics := some 2 }

def pool21 : Array CpInfo := pool [(6, .class_ 8), (1, u "java/lang/Object"), (0, u "<init>"), (0, u "()V"), (1, .class_ 14), (1, u "java/lang/StringUTF16"), (31, u "$assertionsDisabled"), (0, u "Z"), (13, u "HI_BYTE_SHIFT"), (0, u "I"), (2, u "LO_BYTE_SHIFT"), (49, .methodref 12 116), (0, .nameAndType 117 118), (0, u "compress"), (0, u "([CI[BII)I"), (3, u "([CII)[B"), (138, u "coderFromArrayLen"), (0, u "([BI)B"), (106, .class_ 371), (1, u "java/lang/StringUTF16$LinesSpliterator"), (58, u "MAX_LENGTH"), (196, .class_ 628), (0, u "java/lang/StringUTF16$CodePointsSpliterator"), (0, .class_ 630), (0, u "java/lang/StringUTF16$CharsSpliterator")] 4

def k21m0 : Method := { name := "<init>", desc := "()V", sig := { parameters := [], returnType := none }, accessFlags := 0, code := none }
def k21c1 : Code := { maxStack := 2, maxLocals := 2, code := jdk_52_method_15_code, exceptionTable := #[], attributes := #[] }
def k21m1 : Method := { name := "coderFromArrayLen", desc := "([BI)B", sig := { parameters := [(.array .byte), .int], returnType := some .byte }, accessFlags := 8, code := some k21c1 }
def k21c2 : Code := { maxStack := 5, maxLocals := 6, code := jdk_52_method_16_code, exceptionTable := #[], attributes := #[] }
def k21m2 : Method := { name := "compress", desc := "([CII)[B", sig := { parameters := [(.array .char), .int, .int], returnType := some (.array .byte) }, accessFlags := 9, code := some k21c2 }
def k21c3 : Code := { maxStack := 3, maxLocals := 7, code := jdk_52_method_21_code, exceptionTable := #[], attributes := #[] }
def k21m3 : Method := { name := "compress", desc := "([CI[BII)I", sig := { parameters := [(.array .char), .int, (.array .byte), .int, .int], returnType := some .int }, accessFlags := 9, code := some k21c3 }
/-- java/lang/StringUTF16 -/
def k21 : Class := { plain "java/lang/StringUTF16" (some 0) with
  accessFlags := 48
  interfaces := #[]
  cf := some (fileOf pool21 12 #[.nestMembers #[627, 629, 369]] #[{ accessFlags := 0, nameIndex := 9, descriptorIndex := 10, attributes := #[] }, { accessFlags := 8, nameIndex := 261, descriptorIndex := 262, attributes := #[] }, { accessFlags := 9, nameIndex := 117, descriptorIndex := 122, attributes := #[] }, { accessFlags := 9, nameIndex := 117, descriptorIndex := 118, attributes := #[] }] 48 6 #[] #[{ accessFlags := 26, nameIndex := 61, descriptorIndex := 62, attributes := #[] }, { accessFlags := 26, nameIndex := 65, descriptorIndex := 62, attributes := #[] }, { accessFlags := 24, nameIndex := 430, descriptorIndex := 62, attributes := #[] }, { accessFlags := 4120, nameIndex := 46, descriptorIndex := 47, attributes := #[] }])
  fields := #[{ name := "HI_BYTE_SHIFT", type := .int, accessFlags := 26, slot := 0, constantValue := 0 }, { name := "LO_BYTE_SHIFT", type := .int, accessFlags := 26, slot := 1, constantValue := 0 }, { name := "MAX_LENGTH", type := .int, accessFlags := 24, slot := 2, constantValue := 0 }, { name := "$assertionsDisabled", type := .boolean, accessFlags := 4120, slot := 3, constantValue := 0 }]
  methods := #[k21m0, k21m1, k21m2, k21m3]
  instanceTypes := #[]
  staticTypes := #[.int, .int, .int, .boolean]
  resolved := Array.replicate 635 none
  statics := none }

def pool22 : Array CpInfo := pool [(4, .class_ 6), (1, u "java/lang/Object"), (0, u "<init>"), (0, u "()V"), (5, .class_ 16), (1, u "java/lang/StringLatin1"), (104, u "$assertionsDisabled"), (0, u "Z"), (98, .class_ 223), (1, u "java/lang/StringLatin1$LinesSpliterator"), (166, .class_ 391), (0, u "java/lang/StringLatin1$CharsSpliterator")] 3

def k22m0 : Method := { name := "<init>", desc := "()V", sig := { parameters := [], returnType := none }, accessFlags := 0, code := none }
/-- java/lang/StringLatin1 -/
def k22 : Class := { plain "java/lang/StringLatin1" (some 0) with
  accessFlags := 48
  interfaces := #[]
  cf := some (fileOf pool22 14 #[.nestMembers #[390, 221]] #[{ accessFlags := 0, nameIndex := 7, descriptorIndex := 8, attributes := #[] }] 48 4 #[] #[{ accessFlags := 4120, nameIndex := 121, descriptorIndex := 122, attributes := #[] }])
  fields := #[{ name := "$assertionsDisabled", type := .boolean, accessFlags := 4120, slot := 0, constantValue := 0 }]
  methods := #[k22m0]
  instanceTypes := #[]
  staticTypes := #[.boolean]
  resolved := Array.replicate 395 none
  statics := none }

def pool23 : Array CpInfo := pool [(2, .class_ 4), (1, u "java/lang/Object"), (0, u "<init>"), (0, u "()V"), (17, .class_ 26), (1, u "jdk/internal/util/Preconditions"), (28, .class_ 56), (0, u "jdk/internal/util/Preconditions$4"), (57, .class_ 115), (0, u "jdk/internal/util/Preconditions$1"), (7, u "SIOOBE_FORMATTER"), (0, u "Ljava/util/function/BiFunction;"), (0, .class_ 126), (0, u "jdk/internal/util/Preconditions$2"), (3, u "AIOOBE_FORMATTER"), (0, .class_ 132), (0, u "jdk/internal/util/Preconditions$3"), (3, u "IOOBE_FORMATTER")] 57

def k23m0 : Method := { name := "<init>", desc := "()V", sig := { parameters := [], returnType := none }, accessFlags := 1, code := none }
/-- jdk/internal/util/Preconditions -/
def k23 : Class := { plain "jdk/internal/util/Preconditions" (some 0) with
  accessFlags := 33
  interfaces := #[]
  cf := some (fileOf pool23 24 #[.nestMembers #[55, 131, 125, 114]] #[{ accessFlags := 1, nameIndex := 5, descriptorIndex := 6, attributes := #[] }] 33 2 #[] #[{ accessFlags := 25, nameIndex := 123, descriptorIndex := 124, attributes := #[] }, { accessFlags := 25, nameIndex := 130, descriptorIndex := 124, attributes := #[] }, { accessFlags := 25, nameIndex := 136, descriptorIndex := 124, attributes := #[] }])
  fields := #[{ name := "SIOOBE_FORMATTER", type := (.object "java/util/function/BiFunction"), accessFlags := 25, slot := 0, constantValue := 0 }, { name := "AIOOBE_FORMATTER", type := (.object "java/util/function/BiFunction"), accessFlags := 25, slot := 1, constantValue := 0 }, { name := "IOOBE_FORMATTER", type := (.object "java/util/function/BiFunction"), accessFlags := 25, slot := 2, constantValue := 0 }]
  methods := #[k23m0]
  instanceTypes := #[]
  staticTypes := #[(.object "java/util/function/BiFunction"), (.object "java/util/function/BiFunction"), (.object "java/util/function/BiFunction")]
  resolved := Array.replicate 194 none
  statics := some 3 }

def pool24 : Array CpInfo := pool [(9, u "<init>"), (6, .class_ 18), (1, u "java/lang/Object"), (0, u "()V"), (1, .class_ 23), (1, u "jdk/internal/util/ArraysSupport"), (0, u "LOG2_ARRAY_LONG_INDEX_SCALE"), (0, u "I"), (2, u "U"), (0, u "Ljdk/internal/misc/Unsafe;"), (8, u "BIG_ENDIAN"), (0, u "Z"), (8, u "LOG2_BYTE_BIT_SIZE"), (4, u "LOG2_ARRAY_INT_INDEX_SCALE"), (54, u "JLA"), (0, u "Ljdk/internal/access/JavaLangAccess;"), (11, u "LOG2_ARRAY_BOOLEAN_INDEX_SCALE"), (9, u "LOG2_ARRAY_BYTE_INDEX_SCALE"), (5, u "LOG2_ARRAY_CHAR_INDEX_SCALE"), (5, u "LOG2_ARRAY_SHORT_INDEX_SCALE"), (18, u "LOG2_ARRAY_FLOAT_INDEX_SCALE"), (24, u "LOG2_ARRAY_DOUBLE_INDEX_SCALE"), (89, u "T_BOOLEAN"), (2, u "T_CHAR"), (1, u "T_FLOAT"), (1, u "T_DOUBLE"), (1, u "T_BYTE"), (1, u "T_SHORT"), (1, u "T_INT"), (1, u "T_LONG"), (1, u "SOFT_MAX_ARRAY_LENGTH")] 83

def k24m0 : Method := { name := "<init>", desc := "()V", sig := { parameters := [], returnType := none }, accessFlags := 2, code := none }
/-- jdk/internal/util/ArraysSupport -/
def k24 : Class := { plain "jdk/internal/util/ArraysSupport" (some 0) with
  accessFlags := 33
  interfaces := #[]
  cf := some (fileOf pool24 21 #[] #[{ accessFlags := 2, nameIndex := 9, descriptorIndex := 19, attributes := #[] }] 33 16 #[] #[{ accessFlags := 24, nameIndex := 28, descriptorIndex := 29, attributes := #[] }, { accessFlags := 26, nameIndex := 38, descriptorIndex := 39, attributes := #[] }, { accessFlags := 25, nameIndex := 121, descriptorIndex := 25, attributes := #[] }, { accessFlags := 25, nameIndex := 131, descriptorIndex := 25, attributes := #[] }, { accessFlags := 25, nameIndex := 137, descriptorIndex := 25, attributes := #[] }, { accessFlags := 25, nameIndex := 143, descriptorIndex := 25, attributes := #[] }, { accessFlags := 25, nameIndex := 53, descriptorIndex := 25, attributes := #[] }, { accessFlags := 25, nameIndex := 24, descriptorIndex := 25, attributes := #[] }, { accessFlags := 25, nameIndex := 162, descriptorIndex := 25, attributes := #[] }, { accessFlags := 25, nameIndex := 187, descriptorIndex := 25, attributes := #[] }, { accessFlags := 26, nameIndex := 48, descriptorIndex := 25, attributes := #[] }, { accessFlags := 25, nameIndex := 277, descriptorIndex := 25, attributes := #[] }, { accessFlags := 25, nameIndex := 280, descriptorIndex := 25, attributes := #[] }, { accessFlags := 25, nameIndex := 282, descriptorIndex := 25, attributes := #[] }, { accessFlags := 25, nameIndex := 284, descriptorIndex := 25, attributes := #[] }, { accessFlags := 25, nameIndex := 286, descriptorIndex := 25, attributes := #[] }, { accessFlags := 25, nameIndex := 288, descriptorIndex := 25, attributes := #[] }, { accessFlags := 25, nameIndex := 290, descriptorIndex := 25, attributes := #[] }, { accessFlags := 25, nameIndex := 292, descriptorIndex := 25, attributes := #[] }, { accessFlags := 26, nameIndex := 108, descriptorIndex := 109, attributes := #[] }, { accessFlags := 25, nameIndex := 294, descriptorIndex := 25, attributes := #[] }])
  fields := #[{ name := "U", type := (.object "jdk/internal/misc/Unsafe"), accessFlags := 24, slot := 0, constantValue := 0 }, { name := "BIG_ENDIAN", type := .boolean, accessFlags := 26, slot := 1, constantValue := 0 }, { name := "LOG2_ARRAY_BOOLEAN_INDEX_SCALE", type := .int, accessFlags := 25, slot := 2, constantValue := 0 }, { name := "LOG2_ARRAY_BYTE_INDEX_SCALE", type := .int, accessFlags := 25, slot := 3, constantValue := 0 }, { name := "LOG2_ARRAY_CHAR_INDEX_SCALE", type := .int, accessFlags := 25, slot := 4, constantValue := 0 }, { name := "LOG2_ARRAY_SHORT_INDEX_SCALE", type := .int, accessFlags := 25, slot := 5, constantValue := 0 }, { name := "LOG2_ARRAY_INT_INDEX_SCALE", type := .int, accessFlags := 25, slot := 6, constantValue := 0 }, { name := "LOG2_ARRAY_LONG_INDEX_SCALE", type := .int, accessFlags := 25, slot := 7, constantValue := 0 }, { name := "LOG2_ARRAY_FLOAT_INDEX_SCALE", type := .int, accessFlags := 25, slot := 8, constantValue := 0 }, { name := "LOG2_ARRAY_DOUBLE_INDEX_SCALE", type := .int, accessFlags := 25, slot := 9, constantValue := 0 }, { name := "LOG2_BYTE_BIT_SIZE", type := .int, accessFlags := 26, slot := 10, constantValue := 0 }, { name := "T_BOOLEAN", type := .int, accessFlags := 25, slot := 11, constantValue := 0 }, { name := "T_CHAR", type := .int, accessFlags := 25, slot := 12, constantValue := 0 }, { name := "T_FLOAT", type := .int, accessFlags := 25, slot := 13, constantValue := 0 }, { name := "T_DOUBLE", type := .int, accessFlags := 25, slot := 14, constantValue := 0 }, { name := "T_BYTE", type := .int, accessFlags := 25, slot := 15, constantValue := 0 }, { name := "T_SHORT", type := .int, accessFlags := 25, slot := 16, constantValue := 0 }, { name := "T_INT", type := .int, accessFlags := 25, slot := 17, constantValue := 0 }, { name := "T_LONG", type := .int, accessFlags := 25, slot := 18, constantValue := 0 }, { name := "JLA", type := (.object "jdk/internal/access/JavaLangAccess"), accessFlags := 26, slot := 19, constantValue := 0 }, { name := "SOFT_MAX_ARRAY_LENGTH", type := .int, accessFlags := 25, slot := 20, constantValue := 0 }]
  methods := #[k24m0]
  instanceTypes := #[]
  staticTypes := #[(.object "jdk/internal/misc/Unsafe"), .boolean, .int, .int, .int, .int, .int, .int, .int, .int, .int, .int, .int, .int, .int, .int, .int, .int, .int, (.object "jdk/internal/access/JavaLangAccess"), .int]
  resolved := Array.replicate 378 none
  statics := none }

def pool25 : Array CpInfo := pool [(2, .class_ 4), (1, u "java/util/ImmutableCollections$AbstractImmutableList"), (3, .class_ 10), (1, u "java/util/ImmutableCollections$ListN"), (0, u "elements"), (0, u "[Ljava/lang/Object;"), (2, u "allowNulls"), (0, u "Z"), (42, .class_ 60), (0, u "java/io/Serializable"), (53, .class_ 115), (0, u "java/util/ImmutableCollections")] 3

/-- java/util/ImmutableCollections$ListN -/
def k25 : Class := { plain "java/util/ImmutableCollections$ListN" (some 17) with
  accessFlags := 48
  interfaces := #[2]
  cf := some (fileOf pool25 8 #[.nestHost 114] #[] 48 2 #[59] #[{ accessFlags := 18, nameIndex := 11, descriptorIndex := 12, attributes := #[] }, { accessFlags := 18, nameIndex := 15, descriptorIndex := 16, attributes := #[] }])
  fields := #[{ name := "elements", type := (.array (.object "java/lang/Object")), accessFlags := 18, slot := 0, constantValue := 0 }, { name := "allowNulls", type := .boolean, accessFlags := 18, slot := 1, constantValue := 0 }]
  methods := #[]
  instanceTypes := #[(.array (.object "java/lang/Object")), .boolean]
  staticTypes := #[]
  resolved := Array.replicate 119 none
  statics := none }

def pool26 : Array CpInfo := pool [(1, u "java/lang/Cloneable"), (0, .class_ 1), (0, u "java/lang/Object"), (0, .class_ 3)] 3

/-- java/lang/Cloneable -/
def k26 : Class := { plain "java/lang/Cloneable" (some 0) with
  accessFlags := 1537
  interfaces := #[]
  cf := some (fileOf pool26 2 #[] #[] 1537 4 #[] #[])
  fields := #[]
  methods := #[]
  instanceTypes := #[]
  staticTypes := #[]
  resolved := Array.replicate 8 none
  statics := none }

/-- the primitive byte -/
def k27 : Class := { plain "byte" none with kind := .primitive 'B', accessFlags := 0x411 }
/-- [B -/
def k28 : Class := { plain "[B" (some 0) with kind := .array 27 .byte, interfaces := #[26, 2], accessFlags := 1041 }

/-- the primitive char -/
def k29 : Class := { plain "char" none with kind := .primitive 'C', accessFlags := 0x411 }
/-- [C -/
def k30 : Class := { plain "[C" (some 0) with kind := .array 29 .char, interfaces := #[26, 2], accessFlags := 1041 }

/-- the primitive int -/
def k31 : Class := { plain "int" none with kind := .primitive 'I', accessFlags := 0x411 }
/-- [I -/
def k32 : Class := { plain "[I" (some 0) with kind := .array 31 .int, interfaces := #[26, 2], accessFlags := 1041 }

def heap : Heap := #[{ cls := 7, slots := #[.long 0, .int 1, .null, .int 0, .null, .int 0, .int 0], vm := .statics 7 },
  { cls := 9, slots := #[.ref 4, .null, .null], vm := .statics 9 },
  { cls := 20, slots := #[.long 0, .int 0, .null, .ref 5, .ref 6, .null, .null, .null, .int 0, .int 1], vm := .statics 20 },
  { cls := 23, slots := #[.null, .null, .null], vm := .statics 23 },
  { cls := 9, slots := #[.null], vm := .none },
  { cls := 0, slots := #[], vm := .none },
  { cls := 25, slots := #[.null, .int 0], vm := .none }]
def classes : Array Class := #[k0, k1, k2, k3, k4, k5, k6, k7, k8, k9, k10, k11, k12, k13, k14, k15, k16, k17, k18, k19, k20, k21, k22, k23, k24, k25, k26, k27, k28, k29, k30, k31, k32]
def interned : List (Array UInt16 × Addr) := []
def slotsUsed : Nat := 26
def theMethod : MethodId := ⟨1, 3⟩
def args0 : Array Value := #[.int 5, .int 5, .int 5, .int 5]
def aboutOver (below : List Frame) : State where
  vm := { classes := classes, interned := interned.toArray }
  heap := heap
  slotsUsed := slotsUsed
  threads := #[{ frames := .invoking theMethod args0 :: below }]
def below0 : List Frame := [.native { method := ⟨0, 0⟩, args := #[] }]
def about1 : State := aboutOver below0
def p0 : Program := .bare "" "" ""
def e0 : Env := launch0.env 0 0 0
theorem w_frames : about1.frames = Frame.invoking theMethod args0 :: below0 := rfl
set_option maxRecDepth 65536 in
theorem w_args : argsFit about1.vm theMethod args0 = true := by decide +kernel
set_option maxRecDepth 65536 in
theorem w_heap : heapFits about1 = true := by decide +kernel
set_option maxRecDepth 65536 in
theorem w_runnable : about1.curStatus? = some .runnable := by decide +kernel
set_option maxRecDepth 65536 in
theorem w_alone : about1.alone = true := by decide +kernel
set_option maxRecDepth 65536 in
theorem w_named : about1.methodNamed? x = some theMethod := by decide +kernel
set_option maxRecDepth 65536 in
theorem w_hears : about1.hears theMethod below0 = true := by decide +kernel
set_option maxRecDepth 65536 in
theorem w_ripe : about1.ripe theMethod args0 below0 = true := by decide +kernel
theorem w_running : about1.status = .running := rfl
set_option maxRecDepth 65536 in
theorem w_room : about1.hasRoom e0.platform room_1 = true :=
  launch0.hasRoom_least _ room_1 (by decide +kernel) (by decide +kernel) (by decide +kernel) (by decide +kernel) (by decide +kernel) (by decide +kernel)
theorem allAtoms_all (ts : List Jvm.Cond) (a : Array Jvm.Value) (st : Jvm.State) : (allAtoms ts).before a st = ts.all (fun c => c.before a st) := by
  induction ts with
  | nil => rfl
  | cons c t ih =>
    show (Jvm.Cond.and c (allAtoms t)).before a st = _
    rw [Jvm.Cond.before_and, ih, List.all_cons]
def words1 : List Jvm.Cond := Jvm.Cond.code x code maxLocals ret :: tables_1
/-- a 'code' word, met by the world's own term for the bytes: nothing is compared byte by byte -/
theorem code_word {y : MethodName} {bytes : ByteArray} {mx : Nat} {rt : Option FieldType} {a : Array Value} {s : State} {m : MethodId} {meth : Method} {c : Code} (h1 : s.methodNamed? y = some m) (h2 : s.vm.method? m = some meth) (h3 : meth.code = some c) (h4 : c.code = bytes)
    (h5 : (c.maxLocals == mx && c.exceptionTable.isEmpty && decide (c.maxStack ≤ mostOperands) && decide (meth.sig.returnType = rt) && !meth.locks && decide (parseMethodDescriptor y.desc = some meth.sig)) = true) : (Jvm.Cond.code y bytes mx rt).before a s = true := by
  simp only [Bool.and_eq_true, beq_iff_eq, Bool.not_eq_true', decide_eq_true_eq] at h5
  obtain ⟨⟨⟨⟨⟨g1, g2⟩, g3⟩, g4⟩, g5⟩, g6⟩ := h5
  simp [Cond.before, Cond.holds, Cond.value, h1, h2, h3, h4, g1, g2, g3, g4, g5, g6]
def isCode : Jvm.Cond → Bool
  | .code _ _ _ _ => true
  | _ => false
theorem all_split {L : List Jvm.Cond} {P : Jvm.Cond → Bool} (h1 : L.all (fun c => isCode c || P c) = true) (h2 : ∀ c ∈ L.filter isCode, P c = true) : L.all P = true := by
  refine List.all_eq_true.mpr fun c hc => ?_
  have h := List.all_eq_true.mp h1 c hc
  rcases Bool.eq_false_or_eq_true (isCode c) with hi | hi
  · exact h2 c (List.mem_filter.mpr ⟨hc, hi⟩)
  · simpa [hi] using h
set_option maxRecDepth 65536 in
theorem w_c0 : (Jvm.Cond.code x code maxLocals ret).before args0 about1 = true := code_word (m := ⟨1, 3⟩) (meth := k1m3) (c := k1c3) (by decide +kernel) rfl rfl rfl (by decide +kernel)
set_option maxRecDepth 65536 in
theorem w_c1 : (Jvm.Cond.code ({ cls := "portcullis/catalog/ScopeGrantScopesPinLaw", name := "draw", desc := "(IIII)Ljava/lang/String;" } : Jvm.MethodName) method_2_code (7 : Nat) (Option.some (Jvm.ClassFile.FieldType.object "java/lang/String"))).before args0 about1 = true := code_word (m := ⟨1, 1⟩) (meth := k1m1) (c := k1c1) (by decide +kernel) rfl rfl rfl (by decide +kernel)
set_option maxRecDepth 65536 in
theorem w_c2 : (Jvm.Cond.code ({ cls := "java/lang/String", name := "<init>", desc := "([C)V" } : Jvm.MethodName) jdk_42_method_3_code (2 : Nat) (Option.none : Option Jvm.ClassFile.FieldType)).before args0 about1 = true := code_word (m := ⟨7, 1⟩) (meth := k7m1) (c := k7c1) (by decide +kernel) rfl rfl rfl (by decide +kernel)
set_option maxRecDepth 65536 in
theorem w_c3 : (Jvm.Cond.code ({ cls := "java/lang/String", name := "<init>", desc := "([CIILjava/lang/Void;)V" } : Jvm.MethodName) jdk_42_method_149_code (6 : Nat) (Option.none : Option Jvm.ClassFile.FieldType)).before args0 about1 = true := code_word (m := ⟨7, 3⟩) (meth := k7m3) (c := k7c3) (by decide +kernel) rfl rfl rfl (by decide +kernel)
set_option maxRecDepth 65536 in
theorem w_c4 : (Jvm.Cond.code ({ cls := "java/lang/Object", name := "<init>", desc := "()V" } : Jvm.MethodName) object_method_1_code (1 : Nat) (Option.none : Option Jvm.ClassFile.FieldType)).before args0 about1 = true := code_word (m := ⟨0, 0⟩) (meth := k0m0) (c := k0c0) (by decide +kernel) rfl rfl rfl (by decide +kernel)
set_option maxRecDepth 65536 in
theorem w_c5 : (Jvm.Cond.code ({ cls := "portcullis/catalog/Scope", name := "<init>", desc := "(Ljava/lang/String;)V" } : Jvm.MethodName) prog_6_method_1_code (2 : Nat) (Option.none : Option Jvm.ClassFile.FieldType)).before args0 about1 = true := code_word (m := ⟨9, 0⟩) (meth := k9m0) (c := k9c0) (by decide +kernel) rfl rfl rfl (by decide +kernel)
set_option maxRecDepth 65536 in
theorem w_c6 : (Jvm.Cond.code ({ cls := "java/lang/Record", name := "<init>", desc := "()V" } : Jvm.MethodName) jdk_30_method_1_code (1 : Nat) (Option.none : Option Jvm.ClassFile.FieldType)).before args0 about1 = true := code_word (m := ⟨8, 0⟩) (meth := k8m0) (c := k8c0) (by decide +kernel) rfl rfl rfl (by decide +kernel)
set_option maxRecDepth 65536 in
theorem w_c7 : (Jvm.Cond.code ({ cls := "portcullis/catalog/Scope", name := "grantScopes", desc := "()Ljava/util/List;" } : Jvm.MethodName) prog_6_method_4_code (1 : Nat) (Option.some (Jvm.ClassFile.FieldType.object "java/util/List"))).before args0 about1 = true := code_word (m := ⟨9, 2⟩) (meth := k9m2) (c := k9c2) (by decide +kernel) rfl rfl rfl (by decide +kernel)
set_option maxRecDepth 65536 in
theorem w_c8 : (Jvm.Cond.code ({ cls := "portcullis/catalog/Scope", name := "common", desc := "()Z" } : Jvm.MethodName) prog_6_method_3_code (1 : Nat) (Option.some Jvm.ClassFile.FieldType.boolean)).before args0 about1 = true := code_word (m := ⟨9, 1⟩) (meth := k9m1) (c := k9c1) (by decide +kernel) rfl rfl rfl (by decide +kernel)
set_option maxRecDepth 65536 in
theorem w_c9 : (Jvm.Cond.code ({ cls := "java/util/List", name := "of", desc := "(Ljava/lang/Object;Ljava/lang/Object;)Ljava/util/List;" } : Jvm.MethodName) jdk_40_method_38_code (2 : Nat) (Option.some (Jvm.ClassFile.FieldType.object "java/util/List"))).before args0 about1 = true := code_word (m := ⟨13, 3⟩) (meth := k13m3) (c := k13c3) (by decide +kernel) rfl rfl rfl (by decide +kernel)
set_option maxRecDepth 65536 in
theorem w_c10 : (Jvm.Cond.code ({ cls := "java/util/ImmutableCollections$List12", name := "<init>", desc := "(Ljava/lang/Object;Ljava/lang/Object;)V" } : Jvm.MethodName) jdk_44_method_2_code (3 : Nat) (Option.none : Option Jvm.ClassFile.FieldType)).before args0 about1 = true := code_word (m := ⟨18, 1⟩) (meth := k18m1) (c := k18c1) (by decide +kernel) rfl rfl rfl (by decide +kernel)
set_option maxRecDepth 65536 in
theorem w_c11 : (Jvm.Cond.code ({ cls := "java/util/ImmutableCollections$AbstractImmutableList", name := "<init>", desc := "()V" } : Jvm.MethodName) jdk_46_method_1_code (1 : Nat) (Option.none : Option Jvm.ClassFile.FieldType)).before args0 about1 = true := code_word (m := ⟨17, 0⟩) (meth := k17m0) (c := k17c0) (by decide +kernel) rfl rfl rfl (by decide +kernel)
set_option maxRecDepth 65536 in
theorem w_c12 : (Jvm.Cond.code ({ cls := "java/util/ImmutableCollections$AbstractImmutableCollection", name := "<init>", desc := "()V" } : Jvm.MethodName) jdk_47_method_1_code (1 : Nat) (Option.none : Option Jvm.ClassFile.FieldType)).before args0 about1 = true := code_word (m := ⟨15, 0⟩) (meth := k15m0) (c := k15c0) (by decide +kernel) rfl rfl rfl (by decide +kernel)
set_option maxRecDepth 65536 in
theorem w_c13 : (Jvm.Cond.code ({ cls := "java/util/AbstractCollection", name := "<init>", desc := "()V" } : Jvm.MethodName) jdk_22_method_1_code (1 : Nat) (Option.none : Option Jvm.ClassFile.FieldType)).before args0 about1 = true := code_word (m := ⟨14, 0⟩) (meth := k14m0) (c := k14c0) (by decide +kernel) rfl rfl rfl (by decide +kernel)
set_option maxRecDepth 65536 in
theorem w_c14 : (Jvm.Cond.code ({ cls := "java/util/Objects", name := "requireNonNull", desc := "(Ljava/lang/Object;)Ljava/lang/Object;" } : Jvm.MethodName) jdk_31_method_10_code (1 : Nat) (Option.some (Jvm.ClassFile.FieldType.object "java/lang/Object"))).before args0 about1 = true := code_word (m := ⟨19, 1⟩) (meth := k19m1) (c := k19c1) (by decide +kernel) rfl rfl rfl (by decide +kernel)
set_option maxRecDepth 65536 in
theorem w_c15 : (Jvm.Cond.code ({ cls := "java/util/ImmutableCollections$List12", name := "size", desc := "()I" } : Jvm.MethodName) jdk_44_method_3_code (1 : Nat) (Option.some Jvm.ClassFile.FieldType.int)).before args0 about1 = true := code_word (m := ⟨18, 2⟩) (meth := k18m2) (c := k18c2) (by decide +kernel) rfl rfl rfl (by decide +kernel)
set_option maxRecDepth 65536 in
theorem w_c16 : (Jvm.Cond.code ({ cls := "java/util/ImmutableCollections$List12", name := "get", desc := "(I)Ljava/lang/Object;" } : Jvm.MethodName) jdk_44_method_5_code (2 : Nat) (Option.some (Jvm.ClassFile.FieldType.object "java/lang/Object"))).before args0 about1 = true := code_word (m := ⟨18, 3⟩) (meth := k18m3) (c := k18c3) (by decide +kernel) rfl rfl rfl (by decide +kernel)
set_option maxRecDepth 65536 in
theorem w_c17 : (Jvm.Cond.code ({ cls := "portcullis/catalog/ScopeGrantScopesPinLaw", name := "isLocalNamed", desc := "(Lportcullis/catalog/Scope;Ljava/lang/String;)Z" } : Jvm.MethodName) method_3_code (2 : Nat) (Option.some Jvm.ClassFile.FieldType.boolean)).before args0 about1 = true := code_word (m := ⟨1, 2⟩) (meth := k1m2) (c := k1c2) (by decide +kernel) rfl rfl rfl (by decide +kernel)
set_option maxRecDepth 65536 in
theorem w_c18 : (Jvm.Cond.code ({ cls := "portcullis/catalog/Scope", name := "container", desc := "()Ljava/lang/String;" } : Jvm.MethodName) prog_6_method_10_code (1 : Nat) (Option.some (Jvm.ClassFile.FieldType.object "java/lang/String"))).before args0 about1 = true := code_word (m := ⟨9, 3⟩) (meth := k9m3) (c := k9c3) (by decide +kernel) rfl rfl rfl (by decide +kernel)
set_option maxRecDepth 65536 in
theorem w_c19 : (Jvm.Cond.code ({ cls := "java/lang/String", name := "equals", desc := "(Ljava/lang/Object;)Z" } : Jvm.MethodName) jdk_42_method_66_code (3 : Nat) (Option.some Jvm.ClassFile.FieldType.boolean)).before args0 about1 = true := code_word (m := ⟨7, 2⟩) (meth := k7m2) (c := k7c2) (by decide +kernel) rfl rfl rfl (by decide +kernel)
set_option maxRecDepth 65536 in
theorem w_c20 : (Jvm.Cond.code ({ cls := "java/lang/StringUTF16", name := "compress", desc := "([CII)[B" } : Jvm.MethodName) jdk_52_method_16_code (6 : Nat) (Option.some (Jvm.ClassFile.FieldType.array Jvm.ClassFile.FieldType.byte))).before args0 about1 = true := code_word (m := ⟨21, 2⟩) (meth := k21m2) (c := k21c2) (by decide +kernel) rfl rfl rfl (by decide +kernel)
set_option maxRecDepth 65536 in
theorem w_c21 : (Jvm.Cond.code ({ cls := "java/lang/StringUTF16", name := "compress", desc := "([CI[BII)I" } : Jvm.MethodName) jdk_52_method_21_code (7 : Nat) (Option.some Jvm.ClassFile.FieldType.int)).before args0 about1 = true := code_word (m := ⟨21, 3⟩) (meth := k21m3) (c := k21c3) (by decide +kernel) rfl rfl rfl (by decide +kernel)
set_option maxRecDepth 65536 in
theorem w_c22 : (Jvm.Cond.code ({ cls := "java/lang/StringUTF16", name := "coderFromArrayLen", desc := "([BI)B" } : Jvm.MethodName) jdk_52_method_15_code (2 : Nat) (Option.some Jvm.ClassFile.FieldType.byte)).before args0 about1 = true := code_word (m := ⟨21, 1⟩) (meth := k21m1) (c := k21c1) (by decide +kernel) rfl rfl rfl (by decide +kernel)
set_option maxRecDepth 65536 in
theorem w_c23 : (Jvm.Cond.code ({ cls := "java/util/List", name := "of", desc := "(Ljava/lang/Object;)Ljava/util/List;" } : Jvm.MethodName) jdk_40_method_37_code (1 : Nat) (Option.some (Jvm.ClassFile.FieldType.object "java/util/List"))).before args0 about1 = true := code_word (m := ⟨13, 2⟩) (meth := k13m2) (c := k13c2) (by decide +kernel) rfl rfl rfl (by decide +kernel)
set_option maxRecDepth 65536 in
theorem w_c24 : (Jvm.Cond.code ({ cls := "java/util/ImmutableCollections$List12", name := "<init>", desc := "(Ljava/lang/Object;)V" } : Jvm.MethodName) jdk_44_method_1_code (2 : Nat) (Option.none : Option Jvm.ClassFile.FieldType)).before args0 about1 = true := code_word (m := ⟨18, 0⟩) (meth := k18m0) (c := k18c0) (by decide +kernel) rfl rfl rfl (by decide +kernel)
def codes1 : List Jvm.Cond := [Jvm.Cond.code x code maxLocals ret, Jvm.Cond.code ({ cls := "portcullis/catalog/ScopeGrantScopesPinLaw", name := "draw", desc := "(IIII)Ljava/lang/String;" } : Jvm.MethodName) method_2_code (7 : Nat) (Option.some (Jvm.ClassFile.FieldType.object "java/lang/String")), Jvm.Cond.code ({ cls := "java/lang/String", name := "<init>", desc := "([C)V" } : Jvm.MethodName) jdk_42_method_3_code (2 : Nat) (Option.none : Option Jvm.ClassFile.FieldType), Jvm.Cond.code ({ cls := "java/lang/String", name := "<init>", desc := "([CIILjava/lang/Void;)V" } : Jvm.MethodName) jdk_42_method_149_code (6 : Nat) (Option.none : Option Jvm.ClassFile.FieldType), Jvm.Cond.code ({ cls := "java/lang/Object", name := "<init>", desc := "()V" } : Jvm.MethodName) object_method_1_code (1 : Nat) (Option.none : Option Jvm.ClassFile.FieldType), Jvm.Cond.code ({ cls := "portcullis/catalog/Scope", name := "<init>", desc := "(Ljava/lang/String;)V" } : Jvm.MethodName) prog_6_method_1_code (2 : Nat) (Option.none : Option Jvm.ClassFile.FieldType), Jvm.Cond.code ({ cls := "java/lang/Record", name := "<init>", desc := "()V" } : Jvm.MethodName) jdk_30_method_1_code (1 : Nat) (Option.none : Option Jvm.ClassFile.FieldType), Jvm.Cond.code ({ cls := "portcullis/catalog/Scope", name := "grantScopes", desc := "()Ljava/util/List;" } : Jvm.MethodName) prog_6_method_4_code (1 : Nat) (Option.some (Jvm.ClassFile.FieldType.object "java/util/List")), Jvm.Cond.code ({ cls := "portcullis/catalog/Scope", name := "common", desc := "()Z" } : Jvm.MethodName) prog_6_method_3_code (1 : Nat) (Option.some Jvm.ClassFile.FieldType.boolean), Jvm.Cond.code ({ cls := "java/util/List", name := "of", desc := "(Ljava/lang/Object;Ljava/lang/Object;)Ljava/util/List;" } : Jvm.MethodName) jdk_40_method_38_code (2 : Nat) (Option.some (Jvm.ClassFile.FieldType.object "java/util/List")), Jvm.Cond.code ({ cls := "java/util/ImmutableCollections$List12", name := "<init>", desc := "(Ljava/lang/Object;Ljava/lang/Object;)V" } : Jvm.MethodName) jdk_44_method_2_code (3 : Nat) (Option.none : Option Jvm.ClassFile.FieldType), Jvm.Cond.code ({ cls := "java/util/ImmutableCollections$AbstractImmutableList", name := "<init>", desc := "()V" } : Jvm.MethodName) jdk_46_method_1_code (1 : Nat) (Option.none : Option Jvm.ClassFile.FieldType), Jvm.Cond.code ({ cls := "java/util/ImmutableCollections$AbstractImmutableCollection", name := "<init>", desc := "()V" } : Jvm.MethodName) jdk_47_method_1_code (1 : Nat) (Option.none : Option Jvm.ClassFile.FieldType), Jvm.Cond.code ({ cls := "java/util/AbstractCollection", name := "<init>", desc := "()V" } : Jvm.MethodName) jdk_22_method_1_code (1 : Nat) (Option.none : Option Jvm.ClassFile.FieldType), Jvm.Cond.code ({ cls := "java/util/Objects", name := "requireNonNull", desc := "(Ljava/lang/Object;)Ljava/lang/Object;" } : Jvm.MethodName) jdk_31_method_10_code (1 : Nat) (Option.some (Jvm.ClassFile.FieldType.object "java/lang/Object")), Jvm.Cond.code ({ cls := "java/util/ImmutableCollections$List12", name := "size", desc := "()I" } : Jvm.MethodName) jdk_44_method_3_code (1 : Nat) (Option.some Jvm.ClassFile.FieldType.int), Jvm.Cond.code ({ cls := "java/util/ImmutableCollections$List12", name := "get", desc := "(I)Ljava/lang/Object;" } : Jvm.MethodName) jdk_44_method_5_code (2 : Nat) (Option.some (Jvm.ClassFile.FieldType.object "java/lang/Object")), Jvm.Cond.code ({ cls := "portcullis/catalog/ScopeGrantScopesPinLaw", name := "isLocalNamed", desc := "(Lportcullis/catalog/Scope;Ljava/lang/String;)Z" } : Jvm.MethodName) method_3_code (2 : Nat) (Option.some Jvm.ClassFile.FieldType.boolean), Jvm.Cond.code ({ cls := "portcullis/catalog/Scope", name := "container", desc := "()Ljava/lang/String;" } : Jvm.MethodName) prog_6_method_10_code (1 : Nat) (Option.some (Jvm.ClassFile.FieldType.object "java/lang/String")), Jvm.Cond.code ({ cls := "java/lang/String", name := "equals", desc := "(Ljava/lang/Object;)Z" } : Jvm.MethodName) jdk_42_method_66_code (3 : Nat) (Option.some Jvm.ClassFile.FieldType.boolean), Jvm.Cond.code ({ cls := "java/lang/StringUTF16", name := "compress", desc := "([CII)[B" } : Jvm.MethodName) jdk_52_method_16_code (6 : Nat) (Option.some (Jvm.ClassFile.FieldType.array Jvm.ClassFile.FieldType.byte)), Jvm.Cond.code ({ cls := "java/lang/StringUTF16", name := "compress", desc := "([CI[BII)I" } : Jvm.MethodName) jdk_52_method_21_code (7 : Nat) (Option.some Jvm.ClassFile.FieldType.int), Jvm.Cond.code ({ cls := "java/lang/StringUTF16", name := "coderFromArrayLen", desc := "([BI)B" } : Jvm.MethodName) jdk_52_method_15_code (2 : Nat) (Option.some Jvm.ClassFile.FieldType.byte), Jvm.Cond.code ({ cls := "java/util/List", name := "of", desc := "(Ljava/lang/Object;)Ljava/util/List;" } : Jvm.MethodName) jdk_40_method_37_code (1 : Nat) (Option.some (Jvm.ClassFile.FieldType.object "java/util/List")), Jvm.Cond.code ({ cls := "java/util/ImmutableCollections$List12", name := "<init>", desc := "(Ljava/lang/Object;)V" } : Jvm.MethodName) jdk_44_method_1_code (2 : Nat) (Option.none : Option Jvm.ClassFile.FieldType)]
set_option maxRecDepth 65536 in
theorem codes_eq : words1.filter isCode = codes1 := rfl
theorem w_codes : ∀ c ∈ words1.filter isCode, c.before args0 about1 = true := by
  rw [codes_eq]
  intro c hc
  simp only [codes1, List.mem_cons, List.not_mem_nil, or_false] at hc
  rcases hc with rfl | rfl | rfl | rfl | rfl | rfl | rfl | rfl | rfl | rfl | rfl | rfl | rfl | rfl | rfl | rfl | rfl | rfl | rfl | rfl | rfl | rfl | rfl | rfl | rfl
  · exact w_c0
  · exact w_c1
  · exact w_c2
  · exact w_c3
  · exact w_c4
  · exact w_c5
  · exact w_c6
  · exact w_c7
  · exact w_c8
  · exact w_c9
  · exact w_c10
  · exact w_c11
  · exact w_c12
  · exact w_c13
  · exact w_c14
  · exact w_c15
  · exact w_c16
  · exact w_c17
  · exact w_c18
  · exact w_c19
  · exact w_c20
  · exact w_c21
  · exact w_c22
  · exact w_c23
  · exact w_c24
set_option maxRecDepth 65536 in
theorem w_t1 : (words1.take 24).all (fun c => isCode c || c.before args0 about1) = true := by decide +kernel
set_option maxRecDepth 65536 in
theorem w_t2 : ((words1.drop 24).take 24).all (fun c => isCode c || c.before args0 about1) = true := by decide +kernel
set_option maxRecDepth 65536 in
theorem w_t3 : (((words1.drop 24).drop 24).take 24).all (fun c => isCode c || c.before args0 about1) = true := by decide +kernel
set_option maxRecDepth 65536 in
theorem w_t4 : ((((words1.drop 24).drop 24).drop 24).take 24).all (fun c => isCode c || c.before args0 about1) = true := by decide +kernel
set_option maxRecDepth 65536 in
theorem w_t5 : (((((words1.drop 24).drop 24).drop 24).drop 24).take 24).all (fun c => isCode c || c.before args0 about1) = true := by decide +kernel
set_option maxRecDepth 65536 in
theorem w_t6 : (((((words1.drop 24).drop 24).drop 24).drop 24).drop 24).all (fun c => isCode c || c.before args0 about1) = true := by decide +kernel
theorem w_tables : (allAtoms (Jvm.Cond.code x code maxLocals ret :: tables_1)).before args0 about1 = true := by
  rw [allAtoms_all]
  show words1.all (fun c => c.before args0 about1) = true
  refine all_split ?_ w_codes
  rw [← List.take_append_drop 24 words1, List.all_append, w_t1, ← List.take_append_drop 24 (words1.drop 24), List.all_append, w_t2, ← List.take_append_drop 24 ((words1.drop 24).drop 24), List.all_append, w_t3, ← List.take_append_drop 24 (((words1.drop 24).drop 24).drop 24), List.all_append, w_t4, ← List.take_append_drop 24 ((((words1.drop 24).drop 24).drop 24).drop 24), List.all_append, w_t5, w_t6]
  rfl
set_option maxRecDepth 65536 in
theorem w_rest : rest_1_c.before args0 about1 = true := by decide +kernel
set_option maxRecDepth 65536 in
theorem w_case : (Jvm.Cond.and given_1 narrow_1).before args0 about1 = true := by decide +kernel
set_option maxRecDepth 65536 in
theorem w_consts : constsHeld consts_1 about1 := Jvm.Lit.constsHeldB_iff.mp (by decide +kernel)
theorem w_applies : (headSpec (Jvm.Cond.code x code maxLocals ret :: tables_1) room_1).applies x e0.platform about1 = true :=
  (Spec.applies_iff w_frames).mpr ⟨w_running, w_runnable, w_alone, w_named, w_hears, w_ripe, w_room, w_tables⟩
theorem atStart : AtStart classFile x code maxLocals ret World_1 tables_1 room_1 Calls_1 rest_1 Pre_1 launch0 p0 e0 about1 theMethod args0 below0 :=
  ⟨lists_1, trivial, launch0.admits_env _ _ _, launch0.least_env, fairChoices_fair.cas, fairChoices_fair.clock, w_frames, w_args, w_heap, w_applies, ⟨w_consts, trivial⟩, w_rest, w_case⟩
end start1
theorem witness_1 : WitnessClaimed_1 := ⟨start1.p0, start1.e0, start1.about1, start1.theMethod, start1.args0, start1.below0, start1.atStart⟩
end Jvm.Pilot.@@N@@
