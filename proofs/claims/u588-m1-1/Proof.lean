import JvmDerived
import JvmDerived.Pilot.@@N@@Statement
import JvmDerived.Pilot.@@N@@Code
set_option linter.unusedVariables false
set_option linter.unusedSimpArgs false
namespace Jvm.Pilot.@@N@@
open Jvm Jvm.ClassFile Sem Op Lib Jvm.Free Jvm.Stand Jvm.LawKit Jvm.RoadKit Bundle Jvm.Pilot.@@N@@.Jvm.D
section JU
variable {tb : Tables} [Ours tb] {e : Env} {below : List Frame} {T target : State} {m : MethodId} {c : Code} {g : JFrame}
theorem yI (h : At T m c below) (hx : tb.exec = Jvm.exec) (hg : g.method = m) {cd : Jvm.ClassFile.Cond} {x : Int32} {rest : List Value} {o : Int} (pc0 pc' : Nat) (hpc : g.pc = pc0) (hd : decode c.code g.pc = .ok (.ifCond cd o, 3)) (hs : g.stack = .int x :: rest) (hc : ifCond.holds cd x = true) (hr : Steps tb e below (T.setTop { g with pc := pc', stack := rest }) target) (ho : 0 ≤ (pc0 : Int) + o := by decide) (hp : ((pc0 : Int) + o).toNat = pc' := by decide) : Steps tb e below (T.setTop g) target := XS.ifYes h hx hg hpc hd hs hc ho hp hr
theorem yC (h : At T m c below) (hx : tb.exec = Jvm.exec) (hg : g.method = m) {cd : Jvm.ClassFile.Cond} {x y : Int32} {rest : List Value} {o : Int} (pc0 pc' : Nat) (hpc : g.pc = pc0) (hd : decode c.code g.pc = .ok (.if_icmp cd o, 3)) (hs : g.stack = .int y :: .int x :: rest) (hc : if_icmp.holds cd x y = true) (hr : Steps tb e below (T.setTop { g with pc := pc', stack := rest }) target) (ho : 0 ≤ (pc0 : Int) + o := by decide) (hp : ((pc0 : Int) + o).toNat = pc' := by decide) : Steps tb e below (T.setTop g) target := XS.icmpYes h hx hg hpc hd hs hc ho hp hr
theorem yG (h : At T m c below) (hx : tb.exec = Jvm.exec) (hg : g.method = m) {o : Int} (pc0 pc' : Nat) (hpc : g.pc = pc0) (hd : decode c.code g.pc = .ok (.goto o, 3)) (hr : Steps tb e below (T.setTop { g with pc := pc' }) target) (ho : 0 ≤ (pc0 : Int) + o := by decide) (hp : ((pc0 : Int) + o).toNat = pc' := by decide) : Steps tb e below (T.setTop g) target := XS.goto h hx hg hpc hd ho hp hr
end JU
theorem own_w {a b : Nat} (h : a = b) : a ≤ b := Nat.le_of_eq h
abbrev MFP (l : Launch) (Z : State) (y : MethodName) (bytes : ByteArray) (ml : Nat) (rt : Option FieldType) (rm : Room) (ws : List Jvm.Cond) (A : Array Value) (h0 : Heap) (Q : Option Value → Heap → List Loc → Prop) : Prop :=
  MetFree l y (head1 (Jvm.Cond.code y bytes ml rt :: ws) rm) (fun a U => a = A ∧ Z.Warmed39 U.vm ∧ U.heap = h0) (fun _ _ _ _ _ => True) (fun _ U o U' => ∃ v L, o = .returned v ∧ Q v U'.heap L ∧ FrameEnd U o U' L rm.cells rm.slots)
abbrev MFS (l : Launch) (Z : State) (y : MethodName) (bytes : ByteArray) (ml : Nat) (rt : Option FieldType) (rm : Room) (ws : List Jvm.Cond) (A : Array Value) (h0 : Heap) (Q : Option Value → Heap → List Loc → Prop) : Prop :=
  MetFree l y (head1 (Jvm.Cond.code y bytes ml rt :: ws) rm) (fun a U => a = A ∧ Z.Warmed39 U.vm ∧ U.heap = h0) (fun _ _ _ _ _ => True) (fun _ U o U' => ∃ v L, o = .returned v ∧ Q v U'.heap L ∧ ReturnedEndW U o U' L rm.cells rm.slots)
abbrev MFI (l : Launch) (Z : State) (y : MethodName) (bytes : ByteArray) (ml : Nat) (rt : Option FieldType) (rm : Room) (ws : List Jvm.Cond) (A : Array Value) (h0 : Heap) (Q : Option Value → Heap → List Loc → Prop) : Prop :=
  MetFree l y (head1 (Jvm.Cond.code y bytes ml rt :: ws) rm) (fun a U => a = A ∧ Z.Warmed39 U.vm ∧ U.heap = h0 ∧ U.vm.interned = Z.vm.interned) (fun _ _ _ _ _ => True) (fun _ U o U' => ∃ v L, o = .returned v ∧ Q v U'.heap L ∧ ReturnedEndW U o U' L rm.cells rm.slots)
abbrev Kt (p : Program) (e : Env) (below : List Frame) (T st0 : State) (g : JFrame) : Prop := ∀ t, Steps p.tables e below (T.setTop g) t → Steps p.tables e below st0 t
section KL
variable {p : Program} {l : Launch} {e : Env} {R : Room} {s : State} {m : MethodId} {args : Array Value} {below : List Frame} {meth : Method} {c : Code} {T : State} {locs : List Loc} {cells slots : Nat} {Z : State} {a0 : Array Value} {h : Heap} {st0 : State} {g : JFrame}
theorem kget (X : Stand p l e R s m args below meth c T locs cells slots) (hx : p.tables.exec = Jvm.exec) (hZ : Z.Warmed39 s.vm) {own R0 O n d host : String} {index : Nat} (hown : s.vm.findClass own = some m.cls) (w : (Jvm.Cond.fieldLink own index R0 n d).before a0 Z = true ∨ (Jvm.Cond.fieldLinkNest own index R0 n d host).before a0 Z = true) (via : Via Z R0 O n d) (eT : T.heap = h) {a : Addr} {v : Value} (F : Fld Z h a O n d v) (k : Kt p e below T st0 g) (hg : g.method = m) {rest : List Value} (hs : g.stack = .ref a :: rest) (hd : decode c.code g.pc = .ok (.getfield index, 3)) :
    ∃ T', Stand p l e R s m args below meth c T' locs cells slots ∧ T'.heap = h ∧ Kt p e below T' st0 { g with pc := g.pc + 3, stack := v :: rest } := by
  obtain ⟨T', X', e', st⟩ := getF X hx hZ hown w via eT F hg hs hd
  exact ⟨T', X', e', fun t q => k t (st t q)⟩
theorem kgetS (X : Stand p l e R s m args below meth c T locs cells slots) (hx : p.tables.exec = Jvm.exec) (hZ : Z.Warmed39 s.vm) {own R0 O n d host : String} {index : Nat} (hown : s.vm.findClass own = some m.cls) (w : (Jvm.Cond.fieldLink own index R0 n d).before a0 Z = true ∨ (Jvm.Cond.fieldLinkNest own index R0 n d host).before a0 Z = true) (via : Via Z R0 O n d) (eT : T.heap = h) {v : Value} (F : Sta Z h O n d v) (k : Kt p e below T st0 g) (hg : g.method = m) (hd : decode c.code g.pc = .ok (.getstatic index, 3)) :
    ∃ T', Stand p l e R s m args below meth c T' locs cells slots ∧ T'.heap = h ∧ Kt p e below T' st0 { g with pc := g.pc + 3, stack := v :: g.stack } := by
  obtain ⟨T', X', e', st⟩ := getS2 X hx hZ hown w via eT F hg hd
  exact ⟨T', X', e', fun t q => k t (st t q)⟩
theorem kput (X : Stand p l e R s m args below meth c T locs cells slots) (hx : p.tables.exec = Jvm.exec) (hZ : Z.Warmed39 s.vm) {own R0 O n d host C : String} {index kk : Nat} (ty : FieldType) (hown : s.vm.findClass own = some m.cls) (w : (Jvm.Cond.fieldLink own index R0 n d).before a0 Z = true ∨ (Jvm.Cond.fieldLinkNest own index R0 n d host).before a0 Z = true) (via : Via Z R0 O n d) (eT : T.heap = h) {a : Addr} {v old : Value} (F : Fld Z h a O n d old) (E : Exa Z h a C) (L : (Jvm.Cond.lays C O n d).before a0 Z = true ∨ ((Jvm.Cond.laysFinal C O n d).before a0 Z = true ∧ own = O ∧ meth.name = "<init>")) (wi : (Jvm.Cond.instantiable C kk).before a0 Z = true)
    (k : Kt p e below T st0 g) (hg : g.method = m) {rest : List Value} (hs : g.stack = v :: .ref a :: rest) (hd : decode c.code g.pc = .ok (.putfield index, 3)) (hty : parseFieldDescriptor d = some ty) (hn : narrow ty v = v) (hf : fits ty v = true) {n0 : Nat} (O0 : Old Z n0 h) (N : Fr n0 locs) (ge : n0 ≤ a) :
    ∃ T' h', Stand p l e R s m args below meth c T' (locs ++ [⟨a, Jvm.RoadKit.slotOf Z O n d⟩]) cells slots ∧ T'.heap = h' ∧ Wr h h' a (Jvm.RoadKit.slotOf Z O n d) v ∧ Fld Z h' a O n d v ∧ Old Z n0 h' ∧ Fr n0 (locs ++ [⟨a, Jvm.RoadKit.slotOf Z O n d⟩]) ∧ Kt p e below T' st0 { g with pc := g.pc + 3, stack := rest } := by
  obtain ⟨T', h', X', e', W, st⟩ := putF X hx hZ hown w via eT F E L wi hty hn hf hg hs hd
  exact ⟨T', h', X', e', W, F.same W, O0.wr W ge, Fr.snoc X' N ge, fun t q => k t (st t q)⟩
theorem kputN (X : Stand p l e R s m args below meth c T locs cells slots) (hx : p.tables.exec = Jvm.exec) (hZ : Z.Warmed39 s.vm) {own R0 O n d C : String} {index kk : Nat} (ty : FieldType) (hown : s.vm.findClass own = some m.cls) (w : (Jvm.Cond.fieldLink own index R0 n d).before a0 Z = true) (via : Via Z R0 O n d) (eT : T.heap = h) {a : Addr} {v v' old : Value} (F : Fld Z h a O n d old) (E : Exa Z h a C) (L : (Jvm.Cond.lays C O n d).before a0 Z = true ∨ ((Jvm.Cond.laysFinal C O n d).before a0 Z = true ∧ own = O ∧ meth.name = "<init>")) (wi : (Jvm.Cond.instantiable C kk).before a0 Z = true)
    (k : Kt p e below T st0 g) (hg : g.method = m) {rest : List Value} (hs : g.stack = v :: .ref a :: rest) (hd : decode c.code g.pc = .ok (.putfield index, 3)) (hty : parseFieldDescriptor d = some ty) (hn : narrow ty v = v') (hf : fits ty v' = true) {n0 : Nat} (O0 : Old Z n0 h) (N : Fr n0 locs) (ge : n0 ≤ a) :
    ∃ T' h', Stand p l e R s m args below meth c T' (locs ++ [⟨a, Jvm.RoadKit.slotOf Z O n d⟩]) cells slots ∧ T'.heap = h' ∧ Wr h h' a (Jvm.RoadKit.slotOf Z O n d) v' ∧ Fld Z h' a O n d v' ∧ Old Z n0 h' ∧ Fr n0 (locs ++ [⟨a, Jvm.RoadKit.slotOf Z O n d⟩]) ∧ Kt p e below T' st0 { g with pc := g.pc + 3, stack := rest } := by
  obtain ⟨T', h', X', e', W, st⟩ := putFN X hx hZ hown w via eT F E L wi hty hn hf hg hs hd
  exact ⟨T', h', X', e', W, F.same W, O0.wr W ge, Fr.snoc X' N ge, fun t q => k t (st t q)⟩
theorem kcast (X : Stand p l e R s m args below meth c T locs cells slots) (hx : p.tables.exec = Jvm.exec) (hZ : Z.Warmed39 s.vm) {own K : String} {index : Nat} (hown : s.vm.findClass own = some m.cls) (w : (Jvm.Cond.classLink own index K).before a0 Z = true) (eT : T.heap = h) {a : Addr} (F : Ins Z h a K true) (k : Kt p e below T st0 g) (hg : g.method = m) {rest : List Value} (hs : g.stack = .ref a :: rest) (hd : decode c.code g.pc = .ok (.checkcast index, 3)) :
    ∃ T', Stand p l e R s m args below meth c T' locs cells slots ∧ T'.heap = h ∧ Kt p e below T' st0 { g with pc := g.pc + 3 } := by
  obtain ⟨T', X', e', st⟩ := castY X hx hZ hown w eT F hg hs hd
  exact ⟨T', X', e', fun t q => k t (st t q)⟩
theorem kinst (X : Stand p l e R s m args below meth c T locs cells slots) (hx : p.tables.exec = Jvm.exec) (hZ : Z.Warmed39 s.vm) {own K : String} {index : Nat} (hown : s.vm.findClass own = some m.cls) (w : (Jvm.Cond.classLink own index K).before a0 Z = true) (eT : T.heap = h) {a : Addr} (F : Ins Z h a K true) (k : Kt p e below T st0 g) (hg : g.method = m) {rest : List Value} (hs : g.stack = .ref a :: rest) (hd : decode c.code g.pc = .ok (.instanceof index, 3)) :
    ∃ T', Stand p l e R s m args below meth c T' locs cells slots ∧ T'.heap = h ∧ Kt p e below T' st0 { g with pc := g.pc + 3, stack := .int 1 :: rest } := by
  obtain ⟨T', X', e', st⟩ := instY X hx hZ hown w eT F hg hs hd
  exact ⟨T', X', e', fun t q => k t (st t q)⟩
theorem knew (X : Stand p l e R s m args below meth c T locs cells slots) (hx : p.tables.exec = Jvm.exec) (hZ : Z.Warmed39 s.vm) {own C : String} {index n : Nat} (hown : s.vm.findClass own = some m.cls) (w : (Jvm.Cond.classLink own index C).before a0 Z = true) (wi : (Jvm.Cond.instantiable C n).before a0 Z = true) (wz : (Jvm.Cond.initialized C).before a0 Z = true) (eT : T.heap = h) (k : Kt p e below T st0 g) (hg : g.method = m) (hd : decode c.code g.pc = .ok (.new index, 3)) (hc : cells + 1 ≤ R.cells) (hl : slots + n ≤ R.slots) {n0 : Nat} (O0 : Old Z n0 h) :
    ∃ b T' h', h.size ≤ b ∧ n0 ≤ b ∧ Stand p l e R s m args below meth c T' locs (cells + 1) (slots + n) ∧ T'.heap = h' ∧ Ext h h' ∧ Old Z n0 h' ∧ Exa Z h' b C ∧ (∀ {O nm d : String} {ty : FieldType}, Jvm.RoadKit.Laid Z a0 C O nm d → parseFieldDescriptor d = some ty → Fld Z h' b O nm d (defaultValue ty)) ∧ (∃ cell : Cell, h'[b]? = some cell ∧ cell.vm = .none ∧ cell.monitor = {}) ∧ Kt p e below T' st0 { g with pc := g.pc + 3, stack := .ref b :: g.stack } := by
  obtain ⟨T', h', X', e', E, A, D, U, st⟩ := newO X hx hZ hown w wi wz eT hg hd hc hl
  exact ⟨h.size, T', h', Nat.le_refl _, Nat.le_trans (Nat.le_of_eq O0.1.symm) O0.2.1, X', e', E, O0.ext E, A, D, U, fun t q => k t (st t q)⟩
theorem knewP (X : Stand p l e R s m args below meth c T locs cells slots) (hx : p.tables.exec = Jvm.exec) (hZ : Z.Warmed39 s.vm) {aty : ArrayType} (w : (Jvm.Cond.arrayClass (newarray.typeOf aty)).before a0 Z = true) (eT : T.heap = h) (k : Kt p e below T st0 g) (hg : g.method = m) (hd : decode c.code g.pc = .ok (.newarray aty, 2)) {n : Int32} {rest : List Value} (hs : g.stack = .int n :: rest) (hn : ¬ n < 0) (cap : Nat) (hcap : n.toNatClampNeg ≤ cap) (hb : cap * 8 ≤ 536870912) (hc : cells + 1 ≤ R.cells) (hl : slots + cap ≤ R.slots) {n0 : Nat} (O0 : Old Z n0 h) :
    ∃ b T' h' cA, h.size ≤ b ∧ n0 ≤ b ∧ Stand p l e R s m args below meth c T' locs (cells + 1) (slots + cap) ∧ T'.heap = h' ∧ Ext h h' ∧ Old Z n0 h' ∧ Arv Z h' b cA (newarray.typeOf aty) n [] (defaultValue (newarray.typeOf aty)) ∧ Kt p e below T' st0 { g with pc := g.pc + 2, stack := .ref b :: rest } := by
  obtain ⟨T', h', cA, X', e', E, A, st⟩ := newP X hx hZ w eT hg hd hs hn hcap hb hc hl
  exact ⟨h.size, T', h', cA, Nat.le_refl _, Nat.le_trans (Nat.le_of_eq O0.1.symm) O0.2.1, X', e', E, O0.ext E, Arv.new A hn, fun t q => k t (st t q)⟩
theorem kinit (X : Stand p l e R s m args below meth c T locs cells slots) (hx : p.tables.exec = Jvm.exec) (hZ : Z.Warmed39 s.vm) {own : String} {idx : Nat} (hown : s.vm.findClass own = some m.cls) (w1 : (Jvm.Cond.methodLink own idx Lib.objectInit).before a0 Z = true) (w2 : (Jvm.Cond.instanceMethod Lib.objectInit).before a0 Z = true) (w3 : (Jvm.Cond.code Lib.objectInit ⟨#[0xb1]⟩ 1 none).before a0 Z = true) (eT : T.heap = h) (k : Kt p e below T st0 g) (hg : g.method = m) {M : Nat} (hml : c.maxLocals = M) (hsize : g.locals.size = M) {a : Addr} {rest : List Value} (hs : g.stack = .ref a :: rest) (hd : decode c.code g.pc = .ok (.invokespecial idx, 3)) (W : Nat) (hW : 2 * g.monitorRoom + (rest.map fun v => v.category).sum ≤ W) (hf : 1 ≤ R.frames) (hl : W + 12 ≤ R.locals) :
    ∃ T', Stand p l e R s m args below meth c T' locs cells slots ∧ T'.heap = h ∧ Kt p e below T' st0 { g with pc := g.pc + 3, stack := rest } := by
  obtain ⟨T', X', e', st⟩ := initO X hx hZ hown w1 w2 w3 eT hg (hsize.trans hml.symm) hs hd hf hW hl
  exact ⟨T', X', e', fun t q => k t (st t q)⟩
theorem kstC (X : Stand p l e R s m args below meth c T locs cells slots) (hx : p.tables.exec = Jvm.exec) (hZ : Z.Warmed39 s.vm) (eT : T.heap = h) {a : Addr} {ka : ClassId} {z : Int32} {vs : List Value} {dv : Value} (A : Arv Z h a ka .char z vs dv) {j x : Int32} (q1 : ¬ j < 0) (q2 : j < z) (i : Nat) (hj : j.toNatClampNeg = i) (hi : i < vs.length) (k : Kt p e below T st0 g) (hg : g.method = m) {rest : List Value} (hs : g.stack = .int x :: .int j :: .ref a :: rest) (hd : decode c.code g.pc = .ok (.castore, 1)) {n0 : Nat} (O0 : Old Z n0 h) (N : Fr n0 locs) (ge : n0 ≤ a) :
    ∃ T' h', Stand p l e R s m args below meth c T' (locs ++ [⟨a, j.toNatClampNeg⟩]) cells slots ∧ T'.heap = h' ∧ Wr h h' a j.toNatClampNeg (.int (nar .char x)) ∧ Arv Z h' a ka .char z (vs.set i (.int (nar .char x))) dv ∧ Old Z n0 h' ∧ Fr n0 (locs ++ [⟨a, j.toNatClampNeg⟩]) ∧ Kt p e below T' st0 { g with pc := g.pc + 1, stack := rest } := by
  obtain ⟨cl, Ar, b1, S, M, H, G⟩ := A
  obtain ⟨T', h', X', e', W, st⟩ := stC X hx hZ eT Ar (inb_of S ⟨q1, q2⟩) hg hs hd
  exact ⟨T', h', X', e', W, Arv.set Ar b1 S M H G (fits_nar_char _) W i hj hi, O0.wr W ge, Fr.snoc X' N ge, fun t q => k t (st t q)⟩
theorem kstB (X : Stand p l e R s m args below meth c T locs cells slots) (hx : p.tables.exec = Jvm.exec) (hZ : Z.Warmed39 s.vm) (eT : T.heap = h) {a : Addr} {ka : ClassId} {z : Int32} {vs : List Value} {dv : Value} (A : Arv Z h a ka .byte z vs dv) {j x : Int32} (q1 : ¬ j < 0) (q2 : j < z) (i : Nat) (hj : j.toNatClampNeg = i) (hi : i < vs.length) (k : Kt p e below T st0 g) (hg : g.method = m) {rest : List Value} (hs : g.stack = .int x :: .int j :: .ref a :: rest) (hd : decode c.code g.pc = .ok (.bastore, 1)) {n0 : Nat} (O0 : Old Z n0 h) (N : Fr n0 locs) (ge : n0 ≤ a) :
    ∃ T' h', Stand p l e R s m args below meth c T' (locs ++ [⟨a, j.toNatClampNeg⟩]) cells slots ∧ T'.heap = h' ∧ Wr h h' a j.toNatClampNeg (.int (nar .byte x)) ∧ Arv Z h' a ka .byte z (vs.set i (.int (nar .byte x))) dv ∧ Old Z n0 h' ∧ Fr n0 (locs ++ [⟨a, j.toNatClampNeg⟩]) ∧ Kt p e below T' st0 { g with pc := g.pc + 1, stack := rest } := by
  obtain ⟨cl, Ar, b1, S, M, H, G⟩ := A
  obtain ⟨T', h', X', e', W, st⟩ := stB X hx hZ eT Ar (inb_of S ⟨q1, q2⟩) hg hs hd
  exact ⟨T', h', X', e', W, Arv.set Ar b1 S M H G (fits_nar_byte _) W i hj hi, O0.wr W ge, Fr.snoc X' N ge, fun t q => k t (st t q)⟩
theorem kstI (X : Stand p l e R s m args below meth c T locs cells slots) (hx : p.tables.exec = Jvm.exec) (hZ : Z.Warmed39 s.vm) (eT : T.heap = h) {a : Addr} {ka : ClassId} {z : Int32} {vs : List Value} {dv : Value} (A : Arv Z h a ka .int z vs dv) {j x : Int32} (q1 : ¬ j < 0) (q2 : j < z) (i : Nat) (hj : j.toNatClampNeg = i) (hi : i < vs.length) (k : Kt p e below T st0 g) (hg : g.method = m) {rest : List Value} (hs : g.stack = .int x :: .int j :: .ref a :: rest) (hd : decode c.code g.pc = .ok (.iastore, 1)) {n0 : Nat} (O0 : Old Z n0 h) (N : Fr n0 locs) (ge : n0 ≤ a) :
    ∃ T' h', Stand p l e R s m args below meth c T' (locs ++ [⟨a, j.toNatClampNeg⟩]) cells slots ∧ T'.heap = h' ∧ Wr h h' a j.toNatClampNeg (.int x) ∧ Arv Z h' a ka .int z (vs.set i (.int x)) dv ∧ Old Z n0 h' ∧ Fr n0 (locs ++ [⟨a, j.toNatClampNeg⟩]) ∧ Kt p e below T' st0 { g with pc := g.pc + 1, stack := rest } := by
  obtain ⟨cl, Ar, b1, S, M, H, G⟩ := A
  obtain ⟨T', h', X', e', W, st⟩ := stI X hx hZ eT Ar (inb_of S ⟨q1, q2⟩) hg hs hd
  exact ⟨T', h', X', e', W, Arv.set Ar b1 S M H G rfl W i hj hi, O0.wr W ge, Fr.snoc X' N ge, fun t q => k t (st t q)⟩
theorem ldC {t : State} (X : Stand p l e R s m args below meth c T locs cells slots) (hx : p.tables.exec = Jvm.exec) (hZ : Z.Warmed39 s.vm) (eT : T.heap = h) {a : Addr} {ka : ClassId} {z : Int32} {vs : List Value} {dv v : Value} (A : Arv Z h a ka .char z vs dv) {j : Int32} (q1 : ¬ j < 0) (q2 : j < z) (hv : vs.getD j.toNatClampNeg dv = v) (hg : g.method = m) {rest : List Value} (hs : g.stack = .int j :: .ref a :: rest) (hd : decode c.code g.pc = .ok (.caload, 1)) (q : Steps p.tables e below (T.setTop { g with pc := g.pc + 1, stack := v :: rest }) t) : Steps p.tables e below (T.setTop g) t := by
  obtain ⟨cl, Ar, b1, S, M, H, G⟩ := A
  exact X.caload hx (by rw [eT]; exact Ar.1) (State.isArrayOf_alike hZ.alike Ar.2.1) Ar.2.2 (inb_of S ⟨q1, q2⟩) (Has.at H (inb_of S ⟨q1, q2⟩) hv) hg hs hd _ q
theorem ldB {t : State} (X : Stand p l e R s m args below meth c T locs cells slots) (hx : p.tables.exec = Jvm.exec) (hZ : Z.Warmed39 s.vm) (eT : T.heap = h) {a : Addr} {ka : ClassId} {z : Int32} {vs : List Value} {dv v : Value} (A : Arv Z h a ka .byte z vs dv) {j : Int32} (q1 : ¬ j < 0) (q2 : j < z) (hv : vs.getD j.toNatClampNeg dv = v) (hg : g.method = m) {rest : List Value} (hs : g.stack = .int j :: .ref a :: rest) (hd : decode c.code g.pc = .ok (.baload, 1)) (q : Steps p.tables e below (T.setTop { g with pc := g.pc + 1, stack := v :: rest }) t) : Steps p.tables e below (T.setTop g) t := by
  obtain ⟨cl, Ar, b1, S, M, H, G⟩ := A
  exact X.baloadBytes hx (by rw [eT]; exact Ar.1) (State.isArrayOf_alike hZ.alike Ar.2.1) Ar.2.2 (inb_of S ⟨q1, q2⟩) (Has.at H (inb_of S ⟨q1, q2⟩) hv) hg hs hd _ q
theorem ldI {t : State} (X : Stand p l e R s m args below meth c T locs cells slots) (hx : p.tables.exec = Jvm.exec) (hZ : Z.Warmed39 s.vm) (eT : T.heap = h) {a : Addr} {ka : ClassId} {z : Int32} {vs : List Value} {dv v : Value} (A : Arv Z h a ka .int z vs dv) {j : Int32} (q1 : ¬ j < 0) (q2 : j < z) (hv : vs.getD j.toNatClampNeg dv = v) (hg : g.method = m) {rest : List Value} (hs : g.stack = .int j :: .ref a :: rest) (hd : decode c.code g.pc = .ok (.iaload, 1)) (q : Steps p.tables e below (T.setTop { g with pc := g.pc + 1, stack := v :: rest }) t) : Steps p.tables e below (T.setTop g) t := by
  obtain ⟨cl, Ar, b1, S, M, H, G⟩ := A
  exact X.iaload hx (by rw [eT]; exact Ar.1) (State.isArrayOf_alike hZ.alike Ar.2.1) Ar.2.2 (inb_of S ⟨q1, q2⟩) (Has.at H (inb_of S ⟨q1, q2⟩) hv) hg hs hd _ q
theorem ldA {t : State} (X : Stand p l e R s m args below meth c T locs cells slots) (hx : p.tables.exec = Jvm.exec) (hZ : Z.Warmed39 s.vm) (eT : T.heap = h) {a : Addr} {ka : ClassId} {C : String} {z : Int32} {vs : List Value} {dv v : Value} (A : Arv Z h a ka (.object C) z vs dv) {j : Int32} (q1 : ¬ j < 0) (q2 : j < z) (hv : vs.getD j.toNatClampNeg dv = v) (hg : g.method = m) {rest : List Value} (hs : g.stack = .int j :: .ref a :: rest) (hd : decode c.code g.pc = .ok (.aaload, 1)) (q : Steps p.tables e below (T.setTop { g with pc := g.pc + 1, stack := v :: rest }) t) : Steps p.tables e below (T.setTop g) t := by
  obtain ⟨cl, Ar, b1, S, M, H, G⟩ := A
  exact X.aaload hx (by rw [eT]; exact Ar.1) (State.isArrayOf_alike hZ.alike Ar.2.1) rfl Ar.2.2 (inb_of S ⟨q1, q2⟩) (Has.at H (inb_of S ⟨q1, q2⟩) hv) hg hs hd _ q
theorem ldLen {t : State} (X : Stand p l e R s m args below meth c T locs cells slots) (hx : p.tables.exec = Jvm.exec) (hZ : Z.Warmed39 s.vm) (eT : T.heap = h) {a : Addr} {ka : ClassId} {ty : FieldType} {z : Int32} {vs : List Value} {dv : Value} (A : Arv Z h a ka ty z vs dv) (hg : g.method = m) {rest : List Value} (hs : g.stack = .ref a :: rest) (hd : decode c.code g.pc = .ok (.arraylength, 1)) (q : Steps p.tables e below (T.setTop { g with pc := g.pc + 1, stack := .int z :: rest }) t) : Steps p.tables e below (T.setTop g) t := by
  obtain ⟨cl, Ar, b1, S, M, H, G⟩ := A
  refine X.arraylength hx (by rw [eT]; exact Ar.1) (State.isArrayOf_alike hZ.alike Ar.2.1) hg hs hd _ ?_
  rw [len_of S M]; exact q
variable {y z : MethodName} {bytes : ByteArray} {ml : Nat} {rt : Option FieldType} {rm : Room} {as' : Array Value} {Q : Option Value → Heap → List Loc → Prop}
theorem kstat (X : Stand p l e R s m args below meth c T locs cells slots) (hx : p.tables.exec = Jvm.exec) (hZ : Z.Warmed39 s.vm) {own : String} {index : Nat} (hown : s.vm.findClass own = some m.cls) (w1 : (Jvm.Cond.methodLink own index y).before a0 Z = true) (w2 : (Jvm.Cond.static y).before a0 Z = true) (w3 : (Jvm.Cond.initialized y.cls).before a0 Z = true) (w4 : (Jvm.Cond.code y bytes ml rt).before a0 Z = true) (hM : MFP l Z y bytes ml rt rm [] as' h Q) (eT : T.heap = h) (k : Kt p e below T st0 g) {M : Nat} (hml : c.maxLocals = M) {ps : List FieldType} {r : Option FieldType} (pd : parseMethodDescriptor y.desc = some ⟨ps, r⟩) (argsL rest : List Value) (W : Nat) (hd : decode c.code g.pc = .ok (.invokestatic index, 3))
    (hg : g.method = m) (hsize : g.locals.size = M) (hln : argsL.length = ps.length) (hst : g.stack = argsL.reverse ++ rest) (ha : argsL.toArray = as') (hW : 2 * g.monitorRoom + (rest.map fun v => v.category).sum = W) (hy : y.cls ≠ "java/lang/invoke/MethodHandle" ∧ y.cls ≠ "java/lang/invoke/VarHandle" := by decide) (hf : rm.frames + 1 ≤ R.frames := by decide) (hl : W + (ml + 11) + rm.locals ≤ R.locals := by decide) (hc : cells + rm.cells ≤ R.cells := by decide) (hs : slots + rm.slots ≤ R.slots := by decide) :
    ∃ v T' L', Stand p l e R s m args below meth c T' (locs ++ L') (cells + rm.cells) (slots + rm.slots) ∧ Q v T'.heap L' ∧ Kt p e below T' st0 { g with pc := g.pc + 3, stack := v.toList ++ rest } := by
  obtain ⟨v, _, ⟨T', L, k', n'⟩, -, X', ⟨Lc, hQ, e1, e2, e3⟩, st⟩ := Jvm.LawKit.callS X hx hown (mvT hZ w1) (mvT hZ w2) (mvT hZ w3) (mvT hZ w4) hy (backOf (W := W) hM hZ w4 w3 hf hl) hg (hsize.trans hml.symm) (argsL := argsL) (rest := rest) (lenOf pd hln) hst (Nat.le_of_eq hW) hd (fun _ _ => ⟨ha, eT, hc, hs⟩)
  dsimp only [Pt.U, Pt.locs, Pt.cells, Pt.slots] at X' e1 e2 e3 st hQ
  subst e1 e2 e3
  exact ⟨v, T', Lc, X', hQ, fun t q => k t (st t q)⟩
theorem kspec (X : Stand p l e R s m args below meth c T locs cells slots) (hx : p.tables.exec = Jvm.exec) (hZ : Z.Warmed39 s.vm) {own : String} {index : Nat} (hown : s.vm.findClass own = some m.cls) (w1 : (Jvm.Cond.methodLink own index y).before a0 Z = true) (w2 : (Jvm.Cond.instanceMethod y).before a0 Z = true) (w3 : (Jvm.Cond.initialized y.cls).before a0 Z = true) (w4 : (Jvm.Cond.code y bytes ml none).before a0 Z = true) (hM : MFP l Z y bytes ml none rm [] as' h Q) (eT : T.heap = h) (k : Kt p e below T st0 g) {M : Nat} (hml : c.maxLocals = M) {ps : List FieldType} {r : Option FieldType} (pd : parseMethodDescriptor y.desc = some ⟨ps, r⟩) (a : Addr) (argsL rest : List Value) (W : Nat) (hd : decode c.code g.pc = .ok (.invokespecial index, 3))
    (hg : g.method = m) (hsize : g.locals.size = M) (hln : argsL.length = ps.length) (hst : g.stack = argsL.reverse ++ .ref a :: rest) (ha : (Value.ref a :: argsL).toArray = as') (hW : 2 * g.monitorRoom + (rest.map fun v => v.category).sum = W) (hy1 : y.name = "<init>" := by rfl) (hy : y.cls ≠ "java/lang/invoke/MethodHandle" ∧ y.cls ≠ "java/lang/invoke/VarHandle" := by decide) (hf : rm.frames + 1 ≤ R.frames := by decide) (hl : W + (ml + 11) + rm.locals ≤ R.locals := by decide) (hc : cells + rm.cells ≤ R.cells := by decide) (hs : slots + rm.slots ≤ R.slots := by decide) :
    ∃ v T' L', Stand p l e R s m args below meth c T' (locs ++ L') (cells + rm.cells) (slots + rm.slots) ∧ Q v T'.heap L' ∧ Kt p e below T' st0 { g with pc := g.pc + 3, stack := v.toList ++ rest } := by
  obtain ⟨v, _, ⟨T', L, k', n'⟩, -, X', ⟨Lc, hQ, e1, e2, e3⟩, st⟩ := X.specialBack hx hy1 hown (mvT hZ w1) (mvT hZ w2) (mvT hZ w4) hy (backOf (W := W) hM hZ w4 w3 hf hl) hg (hsize.trans hml.symm) (Steps.refl _) (a := a) (argsL := argsL) (rest := rest) (lenOf pd hln) hst (Nat.le_of_eq hW) hd (fun _ _ => ⟨ha, eT, hc, hs⟩)
  dsimp only [Pt.U, Pt.locs, Pt.cells, Pt.slots] at X' e1 e2 e3 st hQ
  subst e1 e2 e3
  exact ⟨v, T', Lc, X', hQ, fun t q => k t (st.trans q)⟩
theorem kvirt (X : Stand p l e R s m args below meth c T locs cells slots) (hx : p.tables.exec = Jvm.exec) (hZ : Z.Warmed39 s.vm) {own C : String} {index : Nat} (hown : s.vm.findClass own = some m.cls) (w1 : (Jvm.Cond.methodLink own index y).before a0 Z = true) (w2 : (Jvm.Cond.declares y).before a0 Z = true) (w3 : (Jvm.Cond.selects C y y).before a0 Z = true) (w4 : (Jvm.Cond.instanceMethod y).before a0 Z = true) (w5 : (Jvm.Cond.code y bytes ml rt).before a0 Z = true) (w6 : (Jvm.Cond.initialized y.cls).before a0 Z = true) (hM : MFP l Z y bytes ml rt rm [] as' h Q) (eT : T.heap = h) {b : Addr} (E : Exa Z h b C) (k : Kt p e below T st0 g) {M : Nat} (hml : c.maxLocals = M) {ps : List FieldType} {r : Option FieldType} (pd : parseMethodDescriptor y.desc = some ⟨ps, r⟩) (argsL rest : List Value) (W : Nat) (hd : decode c.code g.pc = .ok (.invokevirtual index, 3))
    (hg : g.method = m) (hsize : g.locals.size = M) (hln : argsL.length = ps.length) (hst : g.stack = argsL.reverse ++ .ref b :: rest) (ha : (Value.ref b :: argsL).toArray = as') (hW : 2 * g.monitorRoom + (rest.map fun v => v.category).sum = W) (hy : y.cls ≠ "java/lang/invoke/MethodHandle" ∧ y.cls ≠ "java/lang/invoke/VarHandle" := by decide) (hf : rm.frames + 1 ≤ R.frames := by decide) (hl : W + (ml + 11) + rm.locals ≤ R.locals := by decide) (hc : cells + rm.cells ≤ R.cells := by decide) (hs : slots + rm.slots ≤ R.slots := by decide) :
    ∃ v T' L', Stand p l e R s m args below meth c T' (locs ++ L') (cells + rm.cells) (slots + rm.slots) ∧ Q v T'.heap L' ∧ Kt p e below T' st0 { g with pc := g.pc + 3, stack := v.toList ++ rest } := by
  obtain ⟨cB, kB, qa, qb, qc⟩ := isOf hZ eT E
  obtain ⟨v, _, ⟨T', L, k', n'⟩, -, X', ⟨Lc, hQ, e1, e2, e3⟩, st⟩ := X.virtualBack hx (y := y) (z := y) hown (mvT hZ w1) (mvT hZ w2) (notFace_of_selects (args := #[]) (mvT hZ w3)) (mvT hZ w3) (mvT hZ w4) hy (backOf (W := W) hM hZ w5 w6 hf hl) qa qc hg (hsize.trans hml.symm) (Steps.refl _) (argsL := argsL) (rest := rest) (lenOf pd hln) hst (Nat.le_of_eq hW) hd (fun _ _ => ⟨ha, eT, hc, hs⟩)
  dsimp only [Pt.U, Pt.locs, Pt.cells, Pt.slots] at X' e1 e2 e3 st hQ
  subst e1 e2 e3
  exact ⟨v, T', Lc, X', hQ, fun t q => k t (st.trans q)⟩
theorem kface (X : Stand p l e R s m args below meth c T locs cells slots) (hx : p.tables.exec = Jvm.exec) (hZ : Z.Warmed39 s.vm) {own C : String} {index count : Nat} (hown : s.vm.findClass own = some m.cls) (w1 : (Jvm.Cond.methodLink own index y).before a0 Z = true) (w2 : (Jvm.Cond.declares y).before a0 Z = true) (w3 : (Jvm.Cond.interfaceMethod y.cls y.cls y.name y.desc).before a0 Z = true) (w4 : (Jvm.Cond.selects C y z).before a0 Z = true) (w5 : (Jvm.Cond.instanceMethod z).before a0 Z = true) (w6 : (Jvm.Cond.publicMethod z).before a0 Z = true) (w7 : (Jvm.Cond.unhidden C y.name y.desc).before a0 Z = true) (w8 : (Jvm.Cond.castable C y.cls).before a0 Z = true) (w9 : (Jvm.Cond.code z bytes ml rt).before a0 Z = true) (w10 : (Jvm.Cond.initialized z.cls).before a0 Z = true) (hM : MFP l Z z bytes ml rt rm [] as' h Q) (eT : T.heap = h) {b : Addr} (E : Exa Z h b C) (k : Kt p e below T st0 g) {M : Nat} (hml : c.maxLocals = M) {ps : List FieldType} {r : Option FieldType} (pd : parseMethodDescriptor y.desc = some ⟨ps, r⟩) (argsL rest : List Value) (W : Nat) (hd : decode c.code g.pc = .ok (.invokeinterface index count, 5))
    (hg : g.method = m) (hsize : g.locals.size = M) (hln : argsL.length = ps.length) (hst : g.stack = argsL.reverse ++ .ref b :: rest) (ha : (Value.ref b :: argsL).toArray = as') (hW : 2 * g.monitorRoom + (rest.map fun v => v.category).sum = W) (hy : y.cls ≠ "java/lang/invoke/MethodHandle" ∧ y.cls ≠ "java/lang/invoke/VarHandle" := by decide) (hf : rm.frames + 1 ≤ R.frames := by decide) (hl : W + (ml + 11) + rm.locals ≤ R.locals := by decide) (hc : cells + rm.cells ≤ R.cells := by decide) (hs : slots + rm.slots ≤ R.slots := by decide) :
    ∃ v T' L', Stand p l e R s m args below meth c T' (locs ++ L') (cells + rm.cells) (slots + rm.slots) ∧ Q v T'.heap L' ∧ Kt p e below T' st0 { g with pc := g.pc + 5, stack := v.toList ++ rest } := by
  obtain ⟨cB, kB, qa, qb, qc⟩ := isOf hZ eT E
  obtain ⟨v, _, ⟨T', L, k', n'⟩, -, X', ⟨Lc, hQ, e1, e2, e3⟩, st⟩ := X.interfaceBack hx (xi := y) (y := z) hown (mvT hZ w1) (mvT hZ w2) (mvT hZ w3 (by simp [Jvm.Cond.onTables, Jvm.Cond.keepsFace, Jvm.Cond.keeps, Jvm.Cond.steady, Jvm.Cond.faceAtom, hy.1, hy.2])) (mvT hZ w4) (mvT hZ w5) (mvT hZ w6) (mvT hZ w7) (mvT hZ w8) hy (backOf (W := W) hM hZ w9 w10 hf hl) qa qb qc hg (hsize.trans hml.symm) (Steps.refl _) (argsL := argsL) (rest := rest) (lenOf pd hln) hst (Nat.le_of_eq hW) hd (fun _ _ => ⟨ha, eT, hc, hs⟩)
  dsimp only [Pt.U, Pt.locs, Pt.cells, Pt.slots] at X' e1 e2 e3 st hQ
  subst e1 e2 e3
  exact ⟨v, T', Lc, X', hQ, fun t q => k t (st.trans q)⟩
end KL
abbrev vi (x : Int32) : Slot := .val (.int x)
abbrev vr (a : Addr) : Slot := .val (.ref a)
abbrev vj (x : Int64) : Slot := .val (.long x)
abbrev ii (x : Int32) : Value := .int x
abbrev rr (a : Addr) : Value := .ref a
abbrev u_ : Slot := .unset
abbrev S_ (p : Program) (e : Env) (below : List Frame) (T : State) (m : MethodId) (pc : Nat) (L : Array Slot) (S : List Value) (t : State) : Prop := Steps p.tables e below (T.setTop (mkF m pc L S)) t
abbrev nm0 : String := "com/example/elvina/elvina/monitor/Outcome"
abbrev nm1 : String := "java/lang/String"
abbrev nm2 : String := "Lcom/example/elvina/elvina/monitor/Outcome;"
abbrev nm3 : String := "[Lcom/example/elvina/elvina/monitor/Outcome;"
abbrev nm4 : String := "java/lang/StringUTF16"
abbrev nm5 : String := "com/example/elvina/elvina/monitor/OutcomeOfLabelPinLaw"
abbrev nm6 : String := "java/lang/StringLatin1"
abbrev nm7 : String := "Ljava/lang/String;"
abbrev nm8 : String := "(Ljava/lang/String;)Lcom/example/elvina/elvina/monitor/Outcome;"
abbrev nm9 : String := "(Ljava/lang/Object;)Z"
abbrev HW (Z : State) (a0 : Array Value) : Prop := ∀ d ∈ tables_1, d.before a0 Z = true
theorem w0 {Z a0} (hw : HW Z a0) : (Jvm.Cond.fieldLink nm5 (7 : Nat) nm0 "NEW" nm2).before a0 Z = true := hw _ (List.mem_of_getElem? (i := 0) rfl)
theorem w1 {Z a0} (hw : HW Z a0) : (Jvm.Cond.initialized nm0).before a0 Z = true := hw _ (List.mem_of_getElem? (i := 1) rfl)
theorem w2 {Z a0} (hw : HW Z a0) : (Jvm.Cond.laysStatic nm0 "NEW" nm2).before a0 Z = true := hw _ (List.mem_of_getElem? (i := 2) rfl)
theorem w3 {Z a0} (hw : HW Z a0) : (Jvm.Cond.arrayClass Jvm.ClassFile.FieldType.char).before a0 Z = true := hw _ (List.mem_of_getElem? (i := 3) rfl)
theorem w4 {Z a0} (hw : HW Z a0) : (Jvm.Cond.classLink nm5 (22 : Nat) nm1).before a0 Z = true := hw _ (List.mem_of_getElem? (i := 4) rfl)
theorem w5 {Z a0} (hw : HW Z a0) : (Jvm.Cond.instantiable nm1 (4 : Nat)).before a0 Z = true := hw _ (List.mem_of_getElem? (i := 5) rfl)
theorem w6 {Z a0} (hw : HW Z a0) : (Jvm.Cond.initialized nm1).before a0 Z = true := hw _ (List.mem_of_getElem? (i := 6) rfl)
theorem w7 {Z a0} (hw : HW Z a0) : (Jvm.Cond.methodLink nm5 (24 : Nat) ({ cls := nm1, name := "<init>", desc := "([C)V" } : Jvm.MethodName)).before a0 Z = true := hw _ (List.mem_of_getElem? (i := 7) rfl)
theorem w8 {Z a0} (hw : HW Z a0) : (Jvm.Cond.instanceMethod ({ cls := nm1, name := "<init>", desc := "([C)V" } : Jvm.MethodName)).before a0 Z = true := hw _ (List.mem_of_getElem? (i := 8) rfl)
theorem w9 {Z a0} (hw : HW Z a0) : (Jvm.Cond.code ({ cls := nm1, name := "<init>", desc := "([C)V" } : Jvm.MethodName) jdk_42_method_3_code (2 : Nat) (Option.none : Option Jvm.ClassFile.FieldType)).before a0 Z = true := hw _ (List.mem_of_getElem? (i := 9) rfl)
theorem w10 {Z a0} (hw : HW Z a0) : (Jvm.Cond.methodLink nm1 (27 : Nat) ({ cls := nm1, name := "<init>", desc := "([CIILjava/lang/Void;)V" } : Jvm.MethodName)).before a0 Z = true := hw _ (List.mem_of_getElem? (i := 10) rfl)
theorem w11 {Z a0} (hw : HW Z a0) : (Jvm.Cond.instanceMethod ({ cls := nm1, name := "<init>", desc := "([CIILjava/lang/Void;)V" } : Jvm.MethodName)).before a0 Z = true := hw _ (List.mem_of_getElem? (i := 11) rfl)
theorem w13 {Z a0} (hw : HW Z a0) : (Jvm.Cond.code ({ cls := nm1, name := "<init>", desc := "([CIILjava/lang/Void;)V" } : Jvm.MethodName) jdk_42_method_149_code (6 : Nat) (Option.none : Option Jvm.ClassFile.FieldType)).before a0 Z = true := hw _ (List.mem_of_getElem? (i := 13) rfl)
theorem w14 {Z a0} (hw : HW Z a0) : (Jvm.Cond.methodLink nm1 (1 : Nat) ({ cls := "java/lang/Object", name := "<init>", desc := "()V" } : Jvm.MethodName)).before a0 Z = true := hw _ (List.mem_of_getElem? (i := 14) rfl)
theorem w15 {Z a0} (hw : HW Z a0) : (Jvm.Cond.instanceMethod ({ cls := "java/lang/Object", name := "<init>", desc := "()V" } : Jvm.MethodName)).before a0 Z = true := hw _ (List.mem_of_getElem? (i := 15) rfl)
theorem w16 {Z a0} (hw : HW Z a0) : (Jvm.Cond.code ({ cls := "java/lang/Object", name := "<init>", desc := "()V" } : Jvm.MethodName) object_method_1_code (1 : Nat) (Option.none : Option Jvm.ClassFile.FieldType)).before a0 Z = true := hw _ (List.mem_of_getElem? (i := 16) rfl)
theorem w17 {Z a0} (hw : HW Z a0) : (Jvm.Cond.fieldLink nm1 (38 : Nat) nm1 "COMPACT_STRINGS" "Z").before a0 Z = true := hw _ (List.mem_of_getElem? (i := 17) rfl)
theorem w18 {Z a0} (hw : HW Z a0) : (Jvm.Cond.methodLink nm1 (177 : Nat) ({ cls := nm4, name := "compress", desc := "([CII)[B" } : Jvm.MethodName)).before a0 Z = true := hw _ (List.mem_of_getElem? (i := 18) rfl)
theorem w19 {Z a0} (hw : HW Z a0) : (Jvm.Cond.static ({ cls := nm4, name := "compress", desc := "([CII)[B" } : Jvm.MethodName)).before a0 Z = true := hw _ (List.mem_of_getElem? (i := 19) rfl)
theorem w20 {Z a0} (hw : HW Z a0) : (Jvm.Cond.initialized nm4).before a0 Z = true := hw _ (List.mem_of_getElem? (i := 20) rfl)
theorem w21 {Z a0} (hw : HW Z a0) : (Jvm.Cond.code ({ cls := nm4, name := "compress", desc := "([CII)[B" } : Jvm.MethodName) jdk_52_method_16_code (6 : Nat) (Option.some (Jvm.ClassFile.FieldType.array Jvm.ClassFile.FieldType.byte))).before a0 Z = true := hw _ (List.mem_of_getElem? (i := 21) rfl)
theorem w22 {Z a0} (hw : HW Z a0) : (Jvm.Cond.arrayClass Jvm.ClassFile.FieldType.byte).before a0 Z = true := hw _ (List.mem_of_getElem? (i := 22) rfl)
theorem w23 {Z a0} (hw : HW Z a0) : (Jvm.Cond.methodLink nm4 (115 : Nat) ({ cls := nm4, name := "compress", desc := "([CI[BII)I" } : Jvm.MethodName)).before a0 Z = true := hw _ (List.mem_of_getElem? (i := 23) rfl)
theorem w24 {Z a0} (hw : HW Z a0) : (Jvm.Cond.static ({ cls := nm4, name := "compress", desc := "([CI[BII)I" } : Jvm.MethodName)).before a0 Z = true := hw _ (List.mem_of_getElem? (i := 24) rfl)
theorem w25 {Z a0} (hw : HW Z a0) : (Jvm.Cond.code ({ cls := nm4, name := "compress", desc := "([CI[BII)I" } : Jvm.MethodName) jdk_52_method_21_code (7 : Nat) (Option.some Jvm.ClassFile.FieldType.int)).before a0 Z = true := hw _ (List.mem_of_getElem? (i := 25) rfl)
theorem w26 {Z a0} (hw : HW Z a0) : (Jvm.Cond.methodLink nm1 (47 : Nat) ({ cls := nm4, name := "coderFromArrayLen", desc := "([BI)B" } : Jvm.MethodName)).before a0 Z = true := hw _ (List.mem_of_getElem? (i := 26) rfl)
theorem w27 {Z a0} (hw : HW Z a0) : (Jvm.Cond.static ({ cls := nm4, name := "coderFromArrayLen", desc := "([BI)B" } : Jvm.MethodName)).before a0 Z = true := hw _ (List.mem_of_getElem? (i := 27) rfl)
theorem w28 {Z a0} (hw : HW Z a0) : (Jvm.Cond.code ({ cls := nm4, name := "coderFromArrayLen", desc := "([BI)B" } : Jvm.MethodName) jdk_52_method_15_code (2 : Nat) (Option.some Jvm.ClassFile.FieldType.byte)).before a0 Z = true := hw _ (List.mem_of_getElem? (i := 28) rfl)
theorem w29 {Z a0} (hw : HW Z a0) : (Jvm.Cond.fieldLink nm1 (15 : Nat) nm1 "coder" "B").before a0 Z = true := hw _ (List.mem_of_getElem? (i := 29) rfl)
theorem w30 {Z a0} (hw : HW Z a0) : (Jvm.Cond.laysFinal nm1 nm1 "coder" "B").before a0 Z = true := hw _ (List.mem_of_getElem? (i := 30) rfl)
theorem w31 {Z a0} (hw : HW Z a0) : (Jvm.Cond.fieldLink nm1 (9 : Nat) nm1 "value" "[B").before a0 Z = true := hw _ (List.mem_of_getElem? (i := 31) rfl)
theorem w32 {Z a0} (hw : HW Z a0) : (Jvm.Cond.laysFinal nm1 nm1 "value" "[B").before a0 Z = true := hw _ (List.mem_of_getElem? (i := 32) rfl)
theorem w33 {Z a0} (hw : HW Z a0) : (Jvm.Cond.methodLink nm5 (27 : Nat) ({ cls := nm0, name := "ofLabel", desc := nm8 } : Jvm.MethodName)).before a0 Z = true := hw _ (List.mem_of_getElem? (i := 33) rfl)
theorem w34 {Z a0} (hw : HW Z a0) : (Jvm.Cond.static ({ cls := nm0, name := "ofLabel", desc := nm8 } : Jvm.MethodName)).before a0 Z = true := hw _ (List.mem_of_getElem? (i := 34) rfl)
theorem w35 {Z a0} (hw : HW Z a0) : (Jvm.Cond.code ({ cls := nm0, name := "ofLabel", desc := nm8 } : Jvm.MethodName) prog_9_method_5_code (5 : Nat) (Option.some (Jvm.ClassFile.FieldType.object nm0))).before a0 Z = true := hw _ (List.mem_of_getElem? (i := 35) rfl)
theorem w36 {Z a0} (hw : HW Z a0) : (Jvm.Cond.methodLink nm0 (39 : Nat) ({ cls := nm0, name := "values", desc := "()[Lcom/example/elvina/elvina/monitor/Outcome;" } : Jvm.MethodName)).before a0 Z = true := hw _ (List.mem_of_getElem? (i := 36) rfl)
theorem w37 {Z a0} (hw : HW Z a0) : (Jvm.Cond.static ({ cls := nm0, name := "values", desc := "()[Lcom/example/elvina/elvina/monitor/Outcome;" } : Jvm.MethodName)).before a0 Z = true := hw _ (List.mem_of_getElem? (i := 37) rfl)
theorem w38 {Z a0} (hw : HW Z a0) : (Jvm.Cond.code ({ cls := nm0, name := "values", desc := "()[Lcom/example/elvina/elvina/monitor/Outcome;" } : Jvm.MethodName) prog_9_method_1_code (0 : Nat) (Option.some (Jvm.ClassFile.FieldType.array (Jvm.ClassFile.FieldType.object nm0)))).before a0 Z = true := hw _ (List.mem_of_getElem? (i := 38) rfl)
theorem w39 {Z a0} (hw : HW Z a0) : (Jvm.Cond.fieldLink nm0 (16 : Nat) nm0 "$VALUES" nm3).before a0 Z = true := hw _ (List.mem_of_getElem? (i := 39) rfl)
theorem w41 {Z a0} (hw : HW Z a0) : (Jvm.Cond.methodLink nm0 (20 : Nat) ({ cls := nm3, name := "clone", desc := "()Ljava/lang/Object;" } : Jvm.MethodName)).before a0 Z = true := hw _ (List.mem_of_getElem? (i := 41) rfl)
theorem w42 {Z a0} (hw : HW Z a0) : (Jvm.Cond.sameMethod nm3 "java/lang/Object" "clone" "()Ljava/lang/Object;").before a0 Z = true := hw _ (List.mem_of_getElem? (i := 42) rfl)
theorem w44 {Z a0} (hw : HW Z a0) : (Jvm.Cond.instanceMethod ({ cls := "java/lang/Object", name := "clone", desc := "()Ljava/lang/Object;" } : Jvm.MethodName)).before a0 Z = true := hw _ (List.mem_of_getElem? (i := 44) rfl)
theorem w45 {Z a0} (hw : HW Z a0) : (Jvm.Cond.selects nm3 ({ cls := nm3, name := "clone", desc := "()Ljava/lang/Object;" } : Jvm.MethodName) ({ cls := "java/lang/Object", name := "clone", desc := "()Ljava/lang/Object;" } : Jvm.MethodName)).before a0 Z = true := hw _ (List.mem_of_getElem? (i := 45) rfl)
theorem w46 {Z a0} (hw : HW Z a0) : (Jvm.Cond.native ({ cls := "java/lang/Object", name := "clone", desc := "()Ljava/lang/Object;" } : Jvm.MethodName)).before a0 Z = true := hw _ (List.mem_of_getElem? (i := 46) rfl)
theorem w47 {Z a0} (hw : HW Z a0) : (Jvm.Cond.castable nm3 "java/lang/Cloneable").before a0 Z = true := hw _ (List.mem_of_getElem? (i := 47) rfl)
theorem w48 {Z a0} (hw : HW Z a0) : (Jvm.Cond.laysStatic nm0 "CHANGED" nm2).before a0 Z = true := hw _ (List.mem_of_getElem? (i := 48) rfl)
theorem w49 {Z a0} (hw : HW Z a0) : (Jvm.Cond.laysStatic nm0 "UNCHANGED" nm2).before a0 Z = true := hw _ (List.mem_of_getElem? (i := 49) rfl)
theorem w50 {Z a0} (hw : HW Z a0) : (Jvm.Cond.laysStatic nm0 "ERROR" nm2).before a0 Z = true := hw _ (List.mem_of_getElem? (i := 50) rfl)
theorem w51 {Z a0} (hw : HW Z a0) : (Jvm.Cond.initializedFor nm0 "$VALUES" nm3).before a0 Z = true := hw _ (List.mem_of_getElem? (i := 51) rfl)
theorem w52 {Z a0} (hw : HW Z a0) : (Jvm.Cond.classLink nm0 (21 : Nat) nm3).before a0 Z = true := hw _ (List.mem_of_getElem? (i := 52) rfl)
theorem w54 {Z a0} (hw : HW Z a0) : (Jvm.Cond.fieldLink nm0 (35 : Nat) nm0 "label" nm7).before a0 Z = true := hw _ (List.mem_of_getElem? (i := 54) rfl)
theorem w56 {Z a0} (hw : HW Z a0) : (Jvm.Cond.methodLink nm0 (43 : Nat) ({ cls := nm1, name := "equals", desc := nm9 } : Jvm.MethodName)).before a0 Z = true := hw _ (List.mem_of_getElem? (i := 56) rfl)
theorem w57 {Z a0} (hw : HW Z a0) : (Jvm.Cond.declares ({ cls := nm1, name := "equals", desc := nm9 } : Jvm.MethodName)).before a0 Z = true := hw _ (List.mem_of_getElem? (i := 57) rfl)
theorem w58 {Z a0} (hw : HW Z a0) : (Jvm.Cond.instanceMethod ({ cls := nm1, name := "equals", desc := nm9 } : Jvm.MethodName)).before a0 Z = true := hw _ (List.mem_of_getElem? (i := 58) rfl)
theorem w59 {Z a0} (hw : HW Z a0) : (Jvm.Cond.selects nm1 ({ cls := nm1, name := "equals", desc := nm9 } : Jvm.MethodName) ({ cls := nm1, name := "equals", desc := nm9 } : Jvm.MethodName)).before a0 Z = true := hw _ (List.mem_of_getElem? (i := 59) rfl)
theorem w60 {Z a0} (hw : HW Z a0) : (Jvm.Cond.code ({ cls := nm1, name := "equals", desc := nm9 } : Jvm.MethodName) jdk_42_method_66_code (3 : Nat) (Option.some Jvm.ClassFile.FieldType.boolean)).before a0 Z = true := hw _ (List.mem_of_getElem? (i := 60) rfl)
theorem w61 {Z a0} (hw : HW Z a0) : (Jvm.Cond.classLink nm1 (10 : Nat) nm1).before a0 Z = true := hw _ (List.mem_of_getElem? (i := 61) rfl)
theorem w62 {Z a0} (hw : HW Z a0) : (Jvm.Cond.methodLink nm1 (541 : Nat) ({ cls := nm6, name := "equals", desc := "([B[B)Z" } : Jvm.MethodName)).before a0 Z = true := hw _ (List.mem_of_getElem? (i := 62) rfl)
theorem w63 {Z a0} (hw : HW Z a0) : (Jvm.Cond.static ({ cls := nm6, name := "equals", desc := "([B[B)Z" } : Jvm.MethodName)).before a0 Z = true := hw _ (List.mem_of_getElem? (i := 63) rfl)
theorem w64 {Z a0} (hw : HW Z a0) : (Jvm.Cond.initialized nm6).before a0 Z = true := hw _ (List.mem_of_getElem? (i := 64) rfl)
theorem w65 {Z a0} (hw : HW Z a0) : (Jvm.Cond.code ({ cls := nm6, name := "equals", desc := "([B[B)Z" } : Jvm.MethodName) jdk_43_method_13_code (3 : Nat) (Option.some Jvm.ClassFile.FieldType.boolean)).before a0 Z = true := hw _ (List.mem_of_getElem? (i := 65) rfl)
theorem w66 {Z a0} (hw : HW Z a0) : (Jvm.Cond.methodLink nm5 (31 : Nat) ({ cls := nm0, name := "label", desc := "()Ljava/lang/String;" } : Jvm.MethodName)).before a0 Z = true := hw _ (List.mem_of_getElem? (i := 66) rfl)
theorem w67 {Z a0} (hw : HW Z a0) : (Jvm.Cond.declares ({ cls := nm0, name := "label", desc := "()Ljava/lang/String;" } : Jvm.MethodName)).before a0 Z = true := hw _ (List.mem_of_getElem? (i := 67) rfl)
theorem w68 {Z a0} (hw : HW Z a0) : (Jvm.Cond.instanceMethod ({ cls := nm0, name := "label", desc := "()Ljava/lang/String;" } : Jvm.MethodName)).before a0 Z = true := hw _ (List.mem_of_getElem? (i := 68) rfl)
theorem w69 {Z a0} (hw : HW Z a0) : (Jvm.Cond.selects nm0 ({ cls := nm0, name := "label", desc := "()Ljava/lang/String;" } : Jvm.MethodName) ({ cls := nm0, name := "label", desc := "()Ljava/lang/String;" } : Jvm.MethodName)).before a0 Z = true := hw _ (List.mem_of_getElem? (i := 69) rfl)
theorem w70 {Z a0} (hw : HW Z a0) : (Jvm.Cond.code ({ cls := nm0, name := "label", desc := "()Ljava/lang/String;" } : Jvm.MethodName) prog_9_method_4_code (1 : Nat) (Option.some (Jvm.ClassFile.FieldType.object nm1))).before a0 Z = true := hw _ (List.mem_of_getElem? (i := 70) rfl)
theorem w71 {Z a0} (hw : HW Z a0) : (Jvm.Cond.methodLink nm5 (35 : Nat) ({ cls := nm1, name := "equals", desc := nm9 } : Jvm.MethodName)).before a0 Z = true := hw _ (List.mem_of_getElem? (i := 71) rfl)
theorem w72 {Z a0} (hw : HW Z a0) : (Jvm.Cond.fieldLink nm5 (19 : Nat) nm0 "ERROR" nm2).before a0 Z = true := hw _ (List.mem_of_getElem? (i := 72) rfl)
theorem w73 {Z a0} (hw : HW Z a0) : (Jvm.Cond.fieldLink nm5 (16 : Nat) nm0 "UNCHANGED" nm2).before a0 Z = true := hw _ (List.mem_of_getElem? (i := 73) rfl)
theorem w74 {Z a0} (hw : HW Z a0) : (Jvm.Cond.fieldLink nm5 (13 : Nat) nm0 "CHANGED" nm2).before a0 Z = true := hw _ (List.mem_of_getElem? (i := 74) rfl)
theorem own_len {s : State} {args : Array Value} {t : Term} {a : Addr} {cl : Cell} {ty : FieldType} {n : Int32} (ev : t.eval args s none [] s = some (rr a)) (A : Arr s s.heap a cl ty) (h : (Term.length t).eval args s none [] s = some (.int n)) : cl.slots.size < 2 ^ 31 ∧ cl.slots.size.toInt32 = n := by
 have ha : s.arrayAt? a = some cl := A.fin (Vm.Alike.refl _)
 have hl := SBG.length_lt ev ha h
 rw [len_f ev ha hl] at h
 exact ⟨hl, by simpa using h⟩
theorem kclone {p : Program} {l : Launch} {e : Env} {R : Room} {s : State} {m : MethodId} {args : Array Value} {below : List Frame} {meth : Method} {c : Code} {T : State} {locs : List Loc} {cells slots : Nat} {Z : State} {a0 : Array Value} {h : Heap} {st0 : State} {g : JFrame} (X : Stand p l e R s m args below meth c T locs cells slots) (hx : p.tables.exec = Jvm.exec) (hZ : Z.Warmed39 s.vm) {own ad : String} {index : Nat} (hown : s.vm.findClass own = some m.cls)
  (w1 : (Jvm.Cond.methodLink own index ⟨ad, "clone", "()Ljava/lang/Object;"⟩).before a0 Z = true) (w2 : (Jvm.Cond.sameMethod ad "java/lang/Object" "clone" "()Ljava/lang/Object;").before a0 Z = true) (w3 : (Jvm.Cond.native ⟨"java/lang/Object", "clone", "()Ljava/lang/Object;"⟩).before a0 Z = true) (w4 : (Jvm.Cond.instanceMethod ⟨"java/lang/Object", "clone", "()Ljava/lang/Object;"⟩).before a0 Z = true) (w5 : (Jvm.Cond.selects ad ⟨ad, "clone", "()Ljava/lang/Object;"⟩ ⟨"java/lang/Object", "clone", "()Ljava/lang/Object;"⟩).before a0 Z = true) (w6 : (Jvm.Cond.castable ad "java/lang/Cloneable").before a0 Z = true)
  (eT : T.heap = h) {a : Addr} {ka : ClassId} {ty : FieldType} {z : Int32} {vs : List Value} {dv : Value} (A : Arv Z h a ka ty z vs dv) (E : Exa Z h a ad) (k : Kt p e below T st0 g) (hg : g.method = m) {M : Nat} (hml : c.maxLocals = M) (hsize : g.locals.size = M) {rest : List Value} (hst : g.stack = .ref a :: rest) (hd : decode c.code g.pc = .ok (.invokevirtual index, 3)) (W cap : Nat) (hW : 2 * g.monitorRoom + (rest.map fun v => v.category).sum = W) (hf : 1 ≤ R.frames) (hl : W + 14 ≤ R.locals) (hcap : z.toNatClampNeg ≤ cap) (hc : cells + 1 ≤ R.cells) (hsl : slots + cap ≤ R.slots) {n0 : Nat} (O0 : Old Z n0 h) :
  ∃ b T' h', h.size ≤ b ∧ n0 ≤ b ∧ Stand p l e R s m args below meth c T' locs (cells + 1) (slots + cap) ∧ T'.heap = h' ∧ Ext h h' ∧ Old Z n0 h' ∧ Arv Z h' b ka ty z vs dv ∧ Exa Z h' b ad ∧ Kt p e below T' st0 { g with pc := g.pc + 3, stack := .ref b :: rest } := by
 obtain ⟨T', h', X', e', E', A', B', st⟩ := cloneH X hx hZ hown w1 w2 w3 w4 w5 w6 eT (Arv.arh A) E hg (hsize.trans hml.symm) hst hd hf (Nat.le_of_eq hW) hl hcap hc hsl
 exact ⟨h.size, T', h', Nat.le_refl _, Nat.le_trans (Nat.le_of_eq O0.1.symm) O0.2.1, X', e', E', O0.ext E', A', B', fun t q => k t (st t q)⟩
theorem pn_java_lang_StringUTF16 : plainName nm4 = true := by first | (simp [plainName, overriddenIn]; done) | decide +kernel
theorem d0_0 : decode jdk_52_method_21_code 0 = .ok (.iconst 0, 1) := by decide +kernel
theorem d0_1 : decode jdk_52_method_21_code 1 = .ok (.istore 5, 2) := by decide +kernel
theorem d0_3 : decode jdk_52_method_21_code 3 = .ok (.iload 5, 2) := by decide +kernel
theorem d0_5 : decode jdk_52_method_21_code 5 = .ok (.iload 4, 2) := by decide +kernel
theorem d0_7 : decode jdk_52_method_21_code 7 = .ok (.if_icmp .ge 37, 3) := by decide +kernel
theorem d0_10 : decode jdk_52_method_21_code 10 = .ok (.aload_n 0, 1) := by decide +kernel
theorem d0_11 : decode jdk_52_method_21_code 11 = .ok (.iload_n 1, 1) := by decide +kernel
theorem d0_12 : decode jdk_52_method_21_code 12 = .ok (.caload, 1) := by decide +kernel
theorem d0_13 : decode jdk_52_method_21_code 13 = .ok (.istore 6, 2) := by decide +kernel
theorem d0_15 : decode jdk_52_method_21_code 15 = .ok (.iload 6, 2) := by decide +kernel
theorem d0_17 : decode jdk_52_method_21_code 17 = .ok (.sipush 255, 3) := by decide +kernel
theorem d0_20 : decode jdk_52_method_21_code 20 = .ok (.if_icmp .le 6, 3) := by decide +kernel
theorem d0_26 : decode jdk_52_method_21_code 26 = .ok (.aload_n 2, 1) := by decide +kernel
theorem d0_27 : decode jdk_52_method_21_code 27 = .ok (.iload_n 3, 1) := by decide +kernel
theorem d0_28 : decode jdk_52_method_21_code 28 = .ok (.iload 6, 2) := by decide +kernel
theorem d0_30 : decode jdk_52_method_21_code 30 = .ok (.i2b, 1) := by decide +kernel
theorem d0_31 : decode jdk_52_method_21_code 31 = .ok (.bastore, 1) := by decide +kernel
theorem d0_32 : decode jdk_52_method_21_code 32 = .ok (.iinc 1 1, 3) := by decide +kernel
theorem d0_35 : decode jdk_52_method_21_code 35 = .ok (.iinc 3 1, 3) := by decide +kernel
theorem d0_38 : decode jdk_52_method_21_code 38 = .ok (.iinc 5 1, 3) := by decide +kernel
theorem d0_41 : decode jdk_52_method_21_code 41 = .ok (.goto (-38), 3) := by decide +kernel
theorem d0_44 : decode jdk_52_method_21_code 44 = .ok (.iload 4, 2) := by decide +kernel
theorem d0_46 : decode jdk_52_method_21_code 46 = .ok (.ireturn, 1) := by decide +kernel
theorem ef_cmp5_new (m : MethodId) (s_ : Addr) (d_ : Addr) : entryFrame m #[(rr s_), (ii 0), (rr d_), (ii 0), (ii 3)] 7 = mkF m 0 #[vr s_, vi 0, vr d_, vi 0, vi 3, u_, u_] [] := by first | (simp [entryFrame, mkF, argsToLocals, Value.category]; done) | rfl
def Q_cmp5_new (Z : State) (s_ : Addr) (ks_ : ClassId) (d_ : Addr) (kd_ : ClassId) (h0 : Heap) (n0 : Nat) (v : Option Value) (h : Heap) (L : List Loc) : Prop := v = some (ii 3) ∧ Fr n0 L ∧ Keep h0 h [d_] ∧ Arv Z h d_ kd_ .byte (3 : Int32) [(ii 110), (ii 101), (ii 119)] (ii 0)
set_option maxRecDepth 65536 in
set_option maxHeartbeats 40000000 in
theorem rm_cmp5_new (l : Launch) (Z : State) (a0 : Array Value) (hw : HW Z a0) (ws : List Jvm.Cond) (s_ : Addr) (ks_ : ClassId) (d_ : Addr) (kd_ : ClassId) (h0 : Heap) (n0 : Nat) (O0 : Old Z n0 h0) (A0_ : Arv Z h0 s_ ks_ .char (3 : Int32) [(ii 110), (ii 101), (ii 119)] (ii 0)) (A1_ : Arv Z h0 d_ kd_ .byte (3 : Int32) [(ii 0), (ii 0), (ii 0)] (ii 0)) (G2_ : n0 ≤ d_) (NE3_ : s_ ≠ d_) :
  MFP l Z (⟨nm4, "compress", "([CI[BII)I"⟩ : MethodName) jdk_52_method_21_code 7 (some .int) ({ frames := 0, cells := 0, slots := 0, locals := 0 } : Room) ws #[(rr s_), (ii 0), (rr d_), (ii 0), (ii 3)] h0 (Q_cmp5_new Z s_ ks_ d_ kd_ h0 n0) := by
 refine MetFree.of_bodySF (plainFor_of_name pn_java_lang_StringUTF16) hisR ?_
 intro p e s m args below meth c s₁ Bd hml0 hP hK
 obtain ⟨rfl, hZ, hh⟩ := hP
 have hx := Bd.exec
 have hby := Bd.bytes
 have hml : c.maxLocals = 7 := hml0
 have hown : s.vm.findClass nm4 = some m.cls := findClass_of_methodNamed Bd.named
 have hnm := (name_of_methodNamed Bd.named Bd.method).1
 have X0 : Stand p l e ({ frames := 0, cells := 0, slots := 0, locals := 0 } : Room) s m #[(rr s_), (ii 0), (rr d_), (ii 0), (ii 3)] below meth c s₁ [] 0 0 := Stand.of_body Bd
 have e0 : s₁.heap = h0 := by rw [← hh, Bd.state]; rfl
 have N0 := Fr.nil n0
 have kp0 : Keep h0 h0 [d_] := Keep.refl _ _
 have c0 : ∀ t, S_ p e below s₁ m 0 #[vr s_, vi 0, vr d_, vi 0, vi 3, u_, u_] [] t → Steps p.tables e below (s₁.setTop (entryFrame m #[(rr s_), (ii 0), (rr d_), (ii 0), (ii 3)] 7)) t := fun t k => castTop (ef_cmp5_new m s_ d_) k
 generalize s₁.setTop (entryFrame m #[(rr s_), (ii 0), (rr d_), (ii 0), (ii 3)] 7) = st0 at c0 ⊢
 replace c0 : Kt p e below s₁ st0 (mkF m 0 #[vr s_, vi 0, vr d_, vi 0, vi 3, u_, u_] []) := c0
 have c1 : Kt p e below s₁ st0 (mkF m 31 #[vr s_, vi 0, vr d_, vi 0, vi 3, vi 0, vi 110] [(ii 110), (ii 0), (rr d_)]) := fun t k => by
  refine c0 t ?_
  show S_ p e below s₁ m 0 #[vr s_, vi 0, vr d_, vi 0, vi 3, u_, u_] [] t
  refine XS.iconst X0.here hx rfl (hb hby d0_0) ?_
  show S_ p e below s₁ m 1 #[vr s_, vi 0, vr d_, vi 0, vi 3, u_, u_] [(ii 0)] t
  refine XS.istore X0.here hx rfl (hb hby d0_1) rfl (l' := #[vr s_, vi 0, vr d_, vi 0, vi 3, vi 0, u_]) rfl ?_
  show S_ p e below s₁ m 3 #[vr s_, vi 0, vr d_, vi 0, vi 3, vi 0, u_] [] t
  refine XS.iload X0.here hx rfl (hb hby d0_3) rfl ?_
  show S_ p e below s₁ m 5 #[vr s_, vi 0, vr d_, vi 0, vi 3, vi 0, u_] [(ii 0)] t
  refine XS.iload X0.here hx rfl (hb hby d0_5) rfl ?_
  show S_ p e below s₁ m 7 #[vr s_, vi 0, vr d_, vi 0, vi 3, vi 0, u_] [(ii 3), (ii 0)] t
  refine XS.icmpNo X0.here hx rfl (hb hby d0_7) rfl rfl ?_
  show S_ p e below s₁ m 10 #[vr s_, vi 0, vr d_, vi 0, vi 3, vi 0, u_] [] t
  refine XS.aloadN X0.here hx rfl (hb hby d0_10) rfl rfl ?_
  show S_ p e below s₁ m 11 #[vr s_, vi 0, vr d_, vi 0, vi 3, vi 0, u_] [(rr s_)] t
  refine XS.iloadN X0.here hx rfl (hb hby d0_11) rfl ?_
  show S_ p e below s₁ m 12 #[vr s_, vi 0, vr d_, vi 0, vi 3, vi 0, u_] [(ii 0), (rr s_)] t
  refine ldC X0 hx hZ e0 A0_ (v := (ii 110)) (by decide) (by decide) rfl rfl rfl (hb hby d0_12) ?_
  show S_ p e below s₁ m 13 #[vr s_, vi 0, vr d_, vi 0, vi 3, vi 0, u_] [(ii 110)] t
  refine XS.istore X0.here hx rfl (hb hby d0_13) rfl (l' := #[vr s_, vi 0, vr d_, vi 0, vi 3, vi 0, vi 110]) rfl ?_
  show S_ p e below s₁ m 15 #[vr s_, vi 0, vr d_, vi 0, vi 3, vi 0, vi 110] [] t
  refine XS.iload X0.here hx rfl (hb hby d0_15) rfl ?_
  show S_ p e below s₁ m 17 #[vr s_, vi 0, vr d_, vi 0, vi 3, vi 0, vi 110] [(ii 110)] t
  refine XS.sipush X0.here hx rfl (hb hby d0_17) ?_
  show S_ p e below s₁ m 20 #[vr s_, vi 0, vr d_, vi 0, vi 3, vi 0, vi 110] [(ii 255), (ii 110)] t
  refine yC X0.here hx rfl 20 26 rfl (hb hby d0_20) rfl rfl ?_
  show S_ p e below s₁ m 26 #[vr s_, vi 0, vr d_, vi 0, vi 3, vi 0, vi 110] [] t
  refine XS.aloadN X0.here hx rfl (hb hby d0_26) rfl rfl ?_
  show S_ p e below s₁ m 27 #[vr s_, vi 0, vr d_, vi 0, vi 3, vi 0, vi 110] [(rr d_)] t
  refine XS.iloadN X0.here hx rfl (hb hby d0_27) rfl ?_
  show S_ p e below s₁ m 28 #[vr s_, vi 0, vr d_, vi 0, vi 3, vi 0, vi 110] [(ii 0), (rr d_)] t
  refine XS.iload X0.here hx rfl (hb hby d0_28) rfl ?_
  show S_ p e below s₁ m 30 #[vr s_, vi 0, vr d_, vi 0, vi 3, vi 0, vi 110] [(ii 110), (ii 0), (rr d_)] t
  refine XS.i2b X0.here hx rfl (hb hby d0_30) rfl ?_
  exact k
 obtain ⟨T2, h2, X2, e2, W2, f5, o3, N4, c2⟩ := kstB X0 hx hZ e0 A1_ (j := (0 : Int32)) (by decide) (by decide) 0 rfl (Nat.le_of_ble_eq_true rfl) c1 rfl rfl (hb hby d0_31) O0 N0 G2_
 have f6 : Arv Z h2 d_ kd_ .byte (3 : Int32) [(ii 110), (ii 0), (ii 0)] (ii 0) := f5
 have kp7 := kp0.wr W2 (Or.inl (List.mem_of_getElem? (i := 0) rfl))
 have c8 : Kt p e below T2 st0 (mkF m 31 #[vr s_, vi 1, vr d_, vi 1, vi 3, vi 1, vi 101] [(ii 101), (ii 1), (rr d_)]) := fun t k => by
  refine c2 t ?_
  show S_ p e below T2 m 32 #[vr s_, vi 0, vr d_, vi 0, vi 3, vi 0, vi 110] [] t
  refine XS.iinc X2.here hx rfl (hb hby d0_32) rfl (l' := #[vr s_, vi 1, vr d_, vi 0, vi 3, vi 0, vi 110]) rfl ?_
  show S_ p e below T2 m 35 #[vr s_, vi 1, vr d_, vi 0, vi 3, vi 0, vi 110] [] t
  refine XS.iinc X2.here hx rfl (hb hby d0_35) rfl (l' := #[vr s_, vi 1, vr d_, vi 1, vi 3, vi 0, vi 110]) rfl ?_
  show S_ p e below T2 m 38 #[vr s_, vi 1, vr d_, vi 1, vi 3, vi 0, vi 110] [] t
  refine XS.iinc X2.here hx rfl (hb hby d0_38) rfl (l' := #[vr s_, vi 1, vr d_, vi 1, vi 3, vi 1, vi 110]) rfl ?_
  show S_ p e below T2 m 41 #[vr s_, vi 1, vr d_, vi 1, vi 3, vi 1, vi 110] [] t
  refine yG X2.here hx rfl 41 3 rfl (hb hby d0_41) ?_
  show S_ p e below T2 m 3 #[vr s_, vi 1, vr d_, vi 1, vi 3, vi 1, vi 110] [] t
  refine XS.iload X2.here hx rfl (hb hby d0_3) rfl ?_
  show S_ p e below T2 m 5 #[vr s_, vi 1, vr d_, vi 1, vi 3, vi 1, vi 110] [(ii 1)] t
  refine XS.iload X2.here hx rfl (hb hby d0_5) rfl ?_
  show S_ p e below T2 m 7 #[vr s_, vi 1, vr d_, vi 1, vi 3, vi 1, vi 110] [(ii 3), (ii 1)] t
  refine XS.icmpNo X2.here hx rfl (hb hby d0_7) rfl rfl ?_
  show S_ p e below T2 m 10 #[vr s_, vi 1, vr d_, vi 1, vi 3, vi 1, vi 110] [] t
  refine XS.aloadN X2.here hx rfl (hb hby d0_10) rfl rfl ?_
  show S_ p e below T2 m 11 #[vr s_, vi 1, vr d_, vi 1, vi 3, vi 1, vi 110] [(rr s_)] t
  refine XS.iloadN X2.here hx rfl (hb hby d0_11) rfl ?_
  show S_ p e below T2 m 12 #[vr s_, vi 1, vr d_, vi 1, vi 3, vi 1, vi 110] [(ii 1), (rr s_)] t
  refine ldC X2 hx hZ e2 (A0_.other W2 NE3_) (v := (ii 101)) (by decide) (by decide) rfl rfl rfl (hb hby d0_12) ?_
  show S_ p e below T2 m 13 #[vr s_, vi 1, vr d_, vi 1, vi 3, vi 1, vi 110] [(ii 101)] t
  refine XS.istore X2.here hx rfl (hb hby d0_13) rfl (l' := #[vr s_, vi 1, vr d_, vi 1, vi 3, vi 1, vi 101]) rfl ?_
  show S_ p e below T2 m 15 #[vr s_, vi 1, vr d_, vi 1, vi 3, vi 1, vi 101] [] t
  refine XS.iload X2.here hx rfl (hb hby d0_15) rfl ?_
  show S_ p e below T2 m 17 #[vr s_, vi 1, vr d_, vi 1, vi 3, vi 1, vi 101] [(ii 101)] t
  refine XS.sipush X2.here hx rfl (hb hby d0_17) ?_
  show S_ p e below T2 m 20 #[vr s_, vi 1, vr d_, vi 1, vi 3, vi 1, vi 101] [(ii 255), (ii 101)] t
  refine yC X2.here hx rfl 20 26 rfl (hb hby d0_20) rfl rfl ?_
  show S_ p e below T2 m 26 #[vr s_, vi 1, vr d_, vi 1, vi 3, vi 1, vi 101] [] t
  refine XS.aloadN X2.here hx rfl (hb hby d0_26) rfl rfl ?_
  show S_ p e below T2 m 27 #[vr s_, vi 1, vr d_, vi 1, vi 3, vi 1, vi 101] [(rr d_)] t
  refine XS.iloadN X2.here hx rfl (hb hby d0_27) rfl ?_
  show S_ p e below T2 m 28 #[vr s_, vi 1, vr d_, vi 1, vi 3, vi 1, vi 101] [(ii 1), (rr d_)] t
  refine XS.iload X2.here hx rfl (hb hby d0_28) rfl ?_
  show S_ p e below T2 m 30 #[vr s_, vi 1, vr d_, vi 1, vi 3, vi 1, vi 101] [(ii 101), (ii 1), (rr d_)] t
  refine XS.i2b X2.here hx rfl (hb hby d0_30) rfl ?_
  exact k
 obtain ⟨T9, h9, X9, e9, W9, f12, o10, N11, c9⟩ := kstB X2 hx hZ e2 f6 (j := (1 : Int32)) (by decide) (by decide) 1 rfl (Nat.le_of_ble_eq_true rfl) c8 rfl rfl (hb hby d0_31) o3 N4 G2_
 have f13 : Arv Z h9 d_ kd_ .byte (3 : Int32) [(ii 110), (ii 101), (ii 0)] (ii 0) := f12
 have kp14 := kp7.wr W9 (Or.inl (List.mem_of_getElem? (i := 0) rfl))
 have c15 : Kt p e below T9 st0 (mkF m 31 #[vr s_, vi 2, vr d_, vi 2, vi 3, vi 2, vi 119] [(ii 119), (ii 2), (rr d_)]) := fun t k => by
  refine c9 t ?_
  show S_ p e below T9 m 32 #[vr s_, vi 1, vr d_, vi 1, vi 3, vi 1, vi 101] [] t
  refine XS.iinc X9.here hx rfl (hb hby d0_32) rfl (l' := #[vr s_, vi 2, vr d_, vi 1, vi 3, vi 1, vi 101]) rfl ?_
  show S_ p e below T9 m 35 #[vr s_, vi 2, vr d_, vi 1, vi 3, vi 1, vi 101] [] t
  refine XS.iinc X9.here hx rfl (hb hby d0_35) rfl (l' := #[vr s_, vi 2, vr d_, vi 2, vi 3, vi 1, vi 101]) rfl ?_
  show S_ p e below T9 m 38 #[vr s_, vi 2, vr d_, vi 2, vi 3, vi 1, vi 101] [] t
  refine XS.iinc X9.here hx rfl (hb hby d0_38) rfl (l' := #[vr s_, vi 2, vr d_, vi 2, vi 3, vi 2, vi 101]) rfl ?_
  show S_ p e below T9 m 41 #[vr s_, vi 2, vr d_, vi 2, vi 3, vi 2, vi 101] [] t
  refine yG X9.here hx rfl 41 3 rfl (hb hby d0_41) ?_
  show S_ p e below T9 m 3 #[vr s_, vi 2, vr d_, vi 2, vi 3, vi 2, vi 101] [] t
  refine XS.iload X9.here hx rfl (hb hby d0_3) rfl ?_
  show S_ p e below T9 m 5 #[vr s_, vi 2, vr d_, vi 2, vi 3, vi 2, vi 101] [(ii 2)] t
  refine XS.iload X9.here hx rfl (hb hby d0_5) rfl ?_
  show S_ p e below T9 m 7 #[vr s_, vi 2, vr d_, vi 2, vi 3, vi 2, vi 101] [(ii 3), (ii 2)] t
  refine XS.icmpNo X9.here hx rfl (hb hby d0_7) rfl rfl ?_
  show S_ p e below T9 m 10 #[vr s_, vi 2, vr d_, vi 2, vi 3, vi 2, vi 101] [] t
  refine XS.aloadN X9.here hx rfl (hb hby d0_10) rfl rfl ?_
  show S_ p e below T9 m 11 #[vr s_, vi 2, vr d_, vi 2, vi 3, vi 2, vi 101] [(rr s_)] t
  refine XS.iloadN X9.here hx rfl (hb hby d0_11) rfl ?_
  show S_ p e below T9 m 12 #[vr s_, vi 2, vr d_, vi 2, vi 3, vi 2, vi 101] [(ii 2), (rr s_)] t
  refine ldC X9 hx hZ e9 ((A0_.other W2 NE3_).other W9 NE3_) (v := (ii 119)) (by decide) (by decide) rfl rfl rfl (hb hby d0_12) ?_
  show S_ p e below T9 m 13 #[vr s_, vi 2, vr d_, vi 2, vi 3, vi 2, vi 101] [(ii 119)] t
  refine XS.istore X9.here hx rfl (hb hby d0_13) rfl (l' := #[vr s_, vi 2, vr d_, vi 2, vi 3, vi 2, vi 119]) rfl ?_
  show S_ p e below T9 m 15 #[vr s_, vi 2, vr d_, vi 2, vi 3, vi 2, vi 119] [] t
  refine XS.iload X9.here hx rfl (hb hby d0_15) rfl ?_
  show S_ p e below T9 m 17 #[vr s_, vi 2, vr d_, vi 2, vi 3, vi 2, vi 119] [(ii 119)] t
  refine XS.sipush X9.here hx rfl (hb hby d0_17) ?_
  show S_ p e below T9 m 20 #[vr s_, vi 2, vr d_, vi 2, vi 3, vi 2, vi 119] [(ii 255), (ii 119)] t
  refine yC X9.here hx rfl 20 26 rfl (hb hby d0_20) rfl rfl ?_
  show S_ p e below T9 m 26 #[vr s_, vi 2, vr d_, vi 2, vi 3, vi 2, vi 119] [] t
  refine XS.aloadN X9.here hx rfl (hb hby d0_26) rfl rfl ?_
  show S_ p e below T9 m 27 #[vr s_, vi 2, vr d_, vi 2, vi 3, vi 2, vi 119] [(rr d_)] t
  refine XS.iloadN X9.here hx rfl (hb hby d0_27) rfl ?_
  show S_ p e below T9 m 28 #[vr s_, vi 2, vr d_, vi 2, vi 3, vi 2, vi 119] [(ii 2), (rr d_)] t
  refine XS.iload X9.here hx rfl (hb hby d0_28) rfl ?_
  show S_ p e below T9 m 30 #[vr s_, vi 2, vr d_, vi 2, vi 3, vi 2, vi 119] [(ii 119), (ii 2), (rr d_)] t
  refine XS.i2b X9.here hx rfl (hb hby d0_30) rfl ?_
  exact k
 obtain ⟨T16, h16, X16, e16, W16, f19, o17, N18, c16⟩ := kstB X9 hx hZ e9 f13 (j := (2 : Int32)) (by decide) (by decide) 2 rfl (Nat.le_of_ble_eq_true rfl) c15 rfl rfl (hb hby d0_31) o10 N11 G2_
 have f20 : Arv Z h16 d_ kd_ .byte (3 : Int32) [(ii 110), (ii 101), (ii 119)] (ii 0) := f19
 have kp21 := kp14.wr W16 (Or.inl (List.mem_of_getElem? (i := 0) rfl))
 obtain ⟨fs, hr, hrun, hended, hW, hsame⟩ := X16.leave (v := some (ii 3)) (fun h => by rw [Bd.returns] at h; cases h)
 refine ⟨_, _, c16 _ ?_, hrun, hended, _, _, rfl, ?_, ⟨_, rfl⟩, hW, hsame.mono (by decide) (by decide)⟩
 ·show S_ p e below T16 m 32 #[vr s_, vi 2, vr d_, vi 2, vi 3, vi 2, vi 119] [] _
  refine XS.iinc X16.here hx rfl (hb hby d0_32) rfl (l' := #[vr s_, vi 3, vr d_, vi 2, vi 3, vi 2, vi 119]) rfl ?_
  show S_ p e below T16 m 35 #[vr s_, vi 3, vr d_, vi 2, vi 3, vi 2, vi 119] [] _
  refine XS.iinc X16.here hx rfl (hb hby d0_35) rfl (l' := #[vr s_, vi 3, vr d_, vi 3, vi 3, vi 2, vi 119]) rfl ?_
  show S_ p e below T16 m 38 #[vr s_, vi 3, vr d_, vi 3, vi 3, vi 2, vi 119] [] _
  refine XS.iinc X16.here hx rfl (hb hby d0_38) rfl (l' := #[vr s_, vi 3, vr d_, vi 3, vi 3, vi 3, vi 119]) rfl ?_
  show S_ p e below T16 m 41 #[vr s_, vi 3, vr d_, vi 3, vi 3, vi 3, vi 119] [] _
  refine yG X16.here hx rfl 41 3 rfl (hb hby d0_41) ?_
  show S_ p e below T16 m 3 #[vr s_, vi 3, vr d_, vi 3, vi 3, vi 3, vi 119] [] _
  refine XS.iload X16.here hx rfl (hb hby d0_3) rfl ?_
  show S_ p e below T16 m 5 #[vr s_, vi 3, vr d_, vi 3, vi 3, vi 3, vi 119] [(ii 3)] _
  refine XS.iload X16.here hx rfl (hb hby d0_5) rfl ?_
  show S_ p e below T16 m 7 #[vr s_, vi 3, vr d_, vi 3, vi 3, vi 3, vi 119] [(ii 3), (ii 3)] _
  refine yC X16.here hx rfl 7 44 rfl (hb hby d0_7) rfl rfl ?_
  show S_ p e below T16 m 44 #[vr s_, vi 3, vr d_, vi 3, vi 3, vi 3, vi 119] [] _
  refine XS.iload X16.here hx rfl (hb hby d0_44) rfl ?_
  show S_ p e below T16 m 46 #[vr s_, vi 3, vr d_, vi 3, vi 3, vi 3, vi 119] [(ii 3)] _
  exact retOut X16 hx Bd.returns rfl (Or.inl ⟨rfl, Or.inl rfl, _, rfl⟩) (hb hby d0_46) hr
 ·show Q_cmp5_new Z s_ ks_ d_ kd_ h0 n0 _ T16.heap _
  rw [e16]
  exact ⟨rfl, N18, kp21, f20⟩
theorem d1_0 : decode jdk_52_method_16_code 0 = .ok (.iload_n 2, 1) := by decide +kernel
theorem d1_1 : decode jdk_52_method_16_code 1 = .ok (.newarray .byte, 2) := by decide +kernel
theorem d1_3 : decode jdk_52_method_16_code 3 = .ok (.astore_n 3, 1) := by decide +kernel
theorem d1_4 : decode jdk_52_method_16_code 4 = .ok (.aload_n 0, 1) := by decide +kernel
theorem d1_5 : decode jdk_52_method_16_code 5 = .ok (.iload_n 1, 1) := by decide +kernel
theorem d1_6 : decode jdk_52_method_16_code 6 = .ok (.aload_n 3, 1) := by decide +kernel
theorem d1_7 : decode jdk_52_method_16_code 7 = .ok (.iconst 0, 1) := by decide +kernel
theorem d1_8 : decode jdk_52_method_16_code 8 = .ok (.iload_n 2, 1) := by decide +kernel
theorem d1_9 : decode jdk_52_method_16_code 9 = .ok (.invokestatic 115, 3) := by decide +kernel
theorem pd_pACIABIIrI : parseMethodDescriptor "([CI[BII)I" = some ⟨[(.array .char), .int, (.array .byte), .int, .int], some .int⟩ := by decide +kernel
theorem d1_12 : decode jdk_52_method_16_code 12 = .ok (.istore 4, 2) := by decide +kernel
theorem d1_14 : decode jdk_52_method_16_code 14 = .ok (.iload 4, 2) := by decide +kernel
theorem d1_16 : decode jdk_52_method_16_code 16 = .ok (.iload_n 2, 1) := by decide +kernel
theorem d1_17 : decode jdk_52_method_16_code 17 = .ok (.if_icmp .eq 40, 3) := by decide +kernel
theorem d1_57 : decode jdk_52_method_16_code 57 = .ok (.aload_n 3, 1) := by decide +kernel
theorem d1_58 : decode jdk_52_method_16_code 58 = .ok (.areturn, 1) := by decide +kernel
theorem ef_cmp3_new (m : MethodId) (s_ : Addr) : entryFrame m #[(rr s_), (ii 0), (ii 3)] 6 = mkF m 0 #[vr s_, vi 0, vi 3, u_, u_, u_] [] := by first | (simp [entryFrame, mkF, argsToLocals, Value.category]; done) | rfl
def Q_cmp3_new (Z : State) (s_ : Addr) (ks_ : ClassId) (h0 : Heap) (n0 : Nat) (v : Option Value) (h : Heap) (L : List Loc) : Prop := ∃ (b_ : Addr), ∃ (kb_ : ClassId), v = some (rr b_) ∧ Fr n0 L ∧ Keep h0 h [] ∧ Arv Z h b_ kb_ .byte (3 : Int32) [(ii 110), (ii 101), (ii 119)] (ii 0) ∧ n0 ≤ b_ ∧ h0.size ≤ b_
set_option maxRecDepth 65536 in
set_option maxHeartbeats 40000000 in
theorem rm_cmp3_new (l : Launch) (Z : State) (a0 : Array Value) (hw : HW Z a0) (ws : List Jvm.Cond) (s_ : Addr) (ks_ : ClassId) (h0 : Heap) (n0 : Nat) (O0 : Old Z n0 h0) (A0_ : Arv Z h0 s_ ks_ .char (3 : Int32) [(ii 110), (ii 101), (ii 119)] (ii 0)) :
  MFP l Z (⟨nm4, "compress", "([CII)[B"⟩ : MethodName) jdk_52_method_16_code 6 (some (.array .byte)) ({ frames := 1, cells := 1, slots := 3, locals := 18 } : Room) ws #[(rr s_), (ii 0), (ii 3)] h0 (Q_cmp3_new Z s_ ks_ h0 n0) := by
 refine MetFree.of_bodySF (plainFor_of_name pn_java_lang_StringUTF16) hisR ?_
 intro p e s m args below meth c s₁ Bd hml0 hP hK
 obtain ⟨rfl, hZ, hh⟩ := hP
 have hx := Bd.exec
 have hby := Bd.bytes
 have hml : c.maxLocals = 6 := hml0
 have hown : s.vm.findClass nm4 = some m.cls := findClass_of_methodNamed Bd.named
 have hnm := (name_of_methodNamed Bd.named Bd.method).1
 have X0 : Stand p l e ({ frames := 1, cells := 1, slots := 3, locals := 18 } : Room) s m #[(rr s_), (ii 0), (ii 3)] below meth c s₁ [] 0 0 := Stand.of_body Bd
 have e0 : s₁.heap = h0 := by rw [← hh, Bd.state]; rfl
 have N0 := Fr.nil n0
 have kp0 : Keep h0 h0 [] := Keep.refl _ _
 have c0 : ∀ t, S_ p e below s₁ m 0 #[vr s_, vi 0, vi 3, u_, u_, u_] [] t → Steps p.tables e below (s₁.setTop (entryFrame m #[(rr s_), (ii 0), (ii 3)] 6)) t := fun t k => castTop (ef_cmp3_new m s_) k
 generalize s₁.setTop (entryFrame m #[(rr s_), (ii 0), (ii 3)] 6) = st0 at c0 ⊢
 replace c0 : Kt p e below s₁ st0 (mkF m 0 #[vr s_, vi 0, vi 3, u_, u_, u_] []) := c0
 have c1 : Kt p e below s₁ st0 (mkF m 1 #[vr s_, vi 0, vi 3, u_, u_, u_] [(ii 3)]) := fun t k => by
  refine c0 t ?_
  show S_ p e below s₁ m 0 #[vr s_, vi 0, vi 3, u_, u_, u_] [] t
  refine XS.iloadN X0.here hx rfl (hb hby d1_0) rfl ?_
  exact k
 obtain ⟨b2, T2, h2, k2, z2, g2, X2, e2, E2, o3, A2, c2⟩ := knewP (aty := .byte) X0 hx hZ (w22 hw) e0 c1 rfl (hb hby d1_1) rfl (by decide) 3 (by decide) (by decide) (by decide) (by decide) O0
 have kp5 := kp0.ext E2
 have z6 := Nat.le_trans kp0.1 z2
 have f4 : Arv Z h2 b2 k2 .byte (3 : Int32) [(ii 0), (ii 0), (ii 0)] (ii 0) := A2.pad (pad_rep [] (ii 0) 3)
 have q7 := Nat.ne_of_lt (Nat.lt_of_lt_of_le A0_.lt z2)
 have c8 : Kt p e below T2 st0 (mkF m 9 #[vr s_, vi 0, vi 3, vr b2, u_, u_] [(ii 3), (ii 0), (rr b2), (ii 0), (rr s_)]) := fun t k => by
  refine c2 t ?_
  show S_ p e below T2 m 3 #[vr s_, vi 0, vi 3, u_, u_, u_] [(rr b2)] t
  refine XS.astoreN X2.here hx rfl (hb hby d1_3) rfl rfl (l' := #[vr s_, vi 0, vi 3, vr b2, u_, u_]) rfl ?_
  show S_ p e below T2 m 4 #[vr s_, vi 0, vi 3, vr b2, u_, u_] [] t
  refine XS.aloadN X2.here hx rfl (hb hby d1_4) rfl rfl ?_
  show S_ p e below T2 m 5 #[vr s_, vi 0, vi 3, vr b2, u_, u_] [(rr s_)] t
  refine XS.iloadN X2.here hx rfl (hb hby d1_5) rfl ?_
  show S_ p e below T2 m 6 #[vr s_, vi 0, vi 3, vr b2, u_, u_] [(ii 0), (rr s_)] t
  refine XS.aloadN X2.here hx rfl (hb hby d1_6) rfl rfl ?_
  show S_ p e below T2 m 7 #[vr s_, vi 0, vi 3, vr b2, u_, u_] [(rr b2), (ii 0), (rr s_)] t
  refine XS.iconst X2.here hx rfl (hb hby d1_7) ?_
  show S_ p e below T2 m 8 #[vr s_, vi 0, vi 3, vr b2, u_, u_] [(ii 0), (rr b2), (ii 0), (rr s_)] t
  refine XS.iloadN X2.here hx rfl (hb hby d1_8) rfl ?_
  exact k
 obtain ⟨_, T9, L9, X9, hQ9, c9⟩ := kstat X2 hx hZ hown (w23 hw) (w24 hw) (w20 hw) (w25 hw) (rm_cmp5_new l Z a0 hw [] s_ ks_ b2 k2 h2 n0 o3 (A0_.ext E2) f4 g2 q7) e2 c8 hml pd_pACIABIIrI [(rr s_), (ii 0), (rr b2), (ii 0), (ii 3)] [] 0 (hb hby d1_9) rfl rfl rfl rfl rfl rfl
 obtain ⟨rfl, N10q, K11, p12⟩ := hQ9
 have N10 := Fr.app N0 N10q
 have o13 := o3.keep K11 (allS g2 all0)
 have kp14 := kp5.trans K11 (allS (Or.inr z6) all0)
 obtain ⟨fs, hr, hrun, hended, hW, hsame⟩ := X9.leave (v := some (rr b2)) (fun h => by rw [Bd.returns] at h; cases h)
 refine ⟨_, _, c9 _ ?_, hrun, hended, _, _, rfl, ?_, ⟨_, rfl⟩, hW, hsame.mono (by decide) (by decide)⟩
 ·show S_ p e below T9 m 12 #[vr s_, vi 0, vi 3, vr b2, u_, u_] [(ii 3)] _
  refine XS.istore X9.here hx rfl (hb hby d1_12) rfl (l' := #[vr s_, vi 0, vi 3, vr b2, vi 3, u_]) rfl ?_
  show S_ p e below T9 m 14 #[vr s_, vi 0, vi 3, vr b2, vi 3, u_] [] _
  refine XS.iload X9.here hx rfl (hb hby d1_14) rfl ?_
  show S_ p e below T9 m 16 #[vr s_, vi 0, vi 3, vr b2, vi 3, u_] [(ii 3)] _
  refine XS.iloadN X9.here hx rfl (hb hby d1_16) rfl ?_
  show S_ p e below T9 m 17 #[vr s_, vi 0, vi 3, vr b2, vi 3, u_] [(ii 3), (ii 3)] _
  refine yC X9.here hx rfl 17 57 rfl (hb hby d1_17) rfl rfl ?_
  show S_ p e below T9 m 57 #[vr s_, vi 0, vi 3, vr b2, vi 3, u_] [] _
  refine XS.aloadN X9.here hx rfl (hb hby d1_57) rfl rfl ?_
  show S_ p e below T9 m 58 #[vr s_, vi 0, vi 3, vr b2, vi 3, u_] [(rr b2)] _
  exact retOut X9 hx Bd.returns rfl (Or.inr (Or.inr (Or.inr (Or.inr ⟨rfl, rfl, rfl⟩)))) (hb hby d1_58) hr
 ·show Q_cmp3_new Z s_ ks_ h0 n0 _ T9.heap _
  exact ⟨b2, k2, rfl, N10, kp14, p12, g2, z6⟩
theorem d2_0 : decode jdk_52_method_15_code 0 = .ok (.iload_n 1, 1) := by decide +kernel
theorem d2_1 : decode jdk_52_method_15_code 1 = .ok (.aload_n 0, 1) := by decide +kernel
theorem d2_2 : decode jdk_52_method_15_code 2 = .ok (.arraylength, 1) := by decide +kernel
theorem d2_3 : decode jdk_52_method_15_code 3 = .ok (.isub, 1) := by decide +kernel
theorem d2_4 : decode jdk_52_method_15_code 4 = .ok (.bipush 31, 2) := by decide +kernel
theorem d2_6 : decode jdk_52_method_15_code 6 = .ok (.iushr, 1) := by decide +kernel
theorem d2_7 : decode jdk_52_method_15_code 7 = .ok (.i2b, 1) := by decide +kernel
theorem d2_8 : decode jdk_52_method_15_code 8 = .ok (.ireturn, 1) := by decide +kernel
theorem ef_codl_3 (m : MethodId) (s_ : Addr) : entryFrame m #[(rr s_), (ii 3)] 2 = mkF m 0 #[vr s_, vi 3] [] := by first | (simp [entryFrame, mkF, argsToLocals, Value.category]; done) | rfl
def Q_codl_3 (Z : State) (s_ : Addr) (ks_ : ClassId) (vs_ : List Value) (h0 : Heap) (n0 : Nat) (v : Option Value) (h : Heap) (L : List Loc) : Prop := v = some (ii 0) ∧ Fr n0 L ∧ h = h0
set_option maxRecDepth 65536 in
set_option maxHeartbeats 40000000 in
theorem rm_codl_3 (l : Launch) (Z : State) (a0 : Array Value) (hw : HW Z a0) (ws : List Jvm.Cond) (s_ : Addr) (ks_ : ClassId) (vs_ : List Value) (h0 : Heap) (n0 : Nat) (O0 : Old Z n0 h0) (A0_ : Arv Z h0 s_ ks_ .byte (3 : Int32) vs_ (ii 0)) :
  MFP l Z (⟨nm4, "coderFromArrayLen", "([BI)B"⟩ : MethodName) jdk_52_method_15_code 2 (some .byte) ({ frames := 0, cells := 0, slots := 0, locals := 0 } : Room) ws #[(rr s_), (ii 3)] h0 (Q_codl_3 Z s_ ks_ vs_ h0 n0) := by
 refine MetFree.of_bodySF (plainFor_of_name pn_java_lang_StringUTF16) hisR ?_
 intro p e s m args below meth c s₁ Bd hml0 hP hK
 obtain ⟨rfl, hZ, hh⟩ := hP
 have hx := Bd.exec
 have hby := Bd.bytes
 have hml : c.maxLocals = 2 := hml0
 have hown : s.vm.findClass nm4 = some m.cls := findClass_of_methodNamed Bd.named
 have hnm := (name_of_methodNamed Bd.named Bd.method).1
 have X0 : Stand p l e ({ frames := 0, cells := 0, slots := 0, locals := 0 } : Room) s m #[(rr s_), (ii 3)] below meth c s₁ [] 0 0 := Stand.of_body Bd
 have e0 : s₁.heap = h0 := by rw [← hh, Bd.state]; rfl
 have N0 := Fr.nil n0
 have kp0 : Keep h0 h0 [] := Keep.refl _ _
 have c0 : ∀ t, S_ p e below s₁ m 0 #[vr s_, vi 3] [] t → Steps p.tables e below (s₁.setTop (entryFrame m #[(rr s_), (ii 3)] 2)) t := fun t k => castTop (ef_codl_3 m s_) k
 generalize s₁.setTop (entryFrame m #[(rr s_), (ii 3)] 2) = st0 at c0 ⊢
 replace c0 : Kt p e below s₁ st0 (mkF m 0 #[vr s_, vi 3] []) := c0
 obtain ⟨fs, hr, hrun, hended, hW, hsame⟩ := X0.leave (v := some (ii 0)) (fun h => by rw [Bd.returns] at h; cases h)
 refine ⟨_, _, c0 _ ?_, hrun, hended, _, _, rfl, ?_, ⟨_, rfl⟩, hW, hsame.mono (by decide) (by decide)⟩
 ·show S_ p e below s₁ m 0 #[vr s_, vi 3] [] _
  refine XS.iloadN X0.here hx rfl (hb hby d2_0) rfl ?_
  show S_ p e below s₁ m 1 #[vr s_, vi 3] [(ii 3)] _
  refine XS.aloadN X0.here hx rfl (hb hby d2_1) rfl rfl ?_
  show S_ p e below s₁ m 2 #[vr s_, vi 3] [(rr s_), (ii 3)] _
  refine ldLen X0 hx hZ e0 A0_ rfl rfl (hb hby d2_2) ?_
  show S_ p e below s₁ m 3 #[vr s_, vi 3] [(ii 3), (ii 3)] _
  refine XS.isub X0.here hx rfl (hb hby d2_3) rfl ?_
  show S_ p e below s₁ m 4 #[vr s_, vi 3] [(ii 0)] _
  refine XS.bipush X0.here hx rfl (hb hby d2_4) ?_
  show S_ p e below s₁ m 6 #[vr s_, vi 3] [(ii 31), (ii 0)] _
  refine XS.iushr X0.here hx rfl (hb hby d2_6) rfl ?_
  show S_ p e below s₁ m 7 #[vr s_, vi 3] [(ii 0)] _
  refine XS.i2b X0.here hx rfl (hb hby d2_7) rfl ?_
  show S_ p e below s₁ m 8 #[vr s_, vi 3] [(ii 0)] _
  exact retN X0 hx (t := .byte) Bd.returns (by simp) (hb hby d2_8) hr
 ·show Q_codl_3 Z s_ ks_ vs_ h0 n0 _ s₁.heap _
  rw [e0]
  exact ⟨rfl, N0, rfl⟩
theorem pn_java_lang_String : plainName nm1 = true := by first | (simp [plainName, overriddenIn]; done) | decide +kernel
theorem d3_0 : decode jdk_42_method_149_code 0 = .ok (.aload_n 0, 1) := by decide +kernel
theorem d3_1 : decode jdk_42_method_149_code 1 = .ok (.invokespecial 1, 3) := by decide +kernel
theorem d3_4 : decode jdk_42_method_149_code 4 = .ok (.iload_n 3, 1) := by decide +kernel
theorem d3_5 : decode jdk_42_method_149_code 5 = .ok (.ifCond .ne 22, 3) := by decide +kernel
theorem d3_27 : decode jdk_42_method_149_code 27 = .ok (.getstatic 38, 3) := by decide +kernel
theorem d3_30 : decode jdk_42_method_149_code 30 = .ok (.ifCond .eq 28, 3) := by decide +kernel
theorem d3_33 : decode jdk_42_method_149_code 33 = .ok (.aload_n 1, 1) := by decide +kernel
theorem d3_34 : decode jdk_42_method_149_code 34 = .ok (.iload_n 2, 1) := by decide +kernel
theorem d3_35 : decode jdk_42_method_149_code 35 = .ok (.iload_n 3, 1) := by decide +kernel
theorem d3_36 : decode jdk_42_method_149_code 36 = .ok (.invokestatic 177, 3) := by decide +kernel
theorem pd_pACIIrAB : parseMethodDescriptor "([CII)[B" = some ⟨[(.array .char), .int, .int], some (.array .byte)⟩ := by decide +kernel
theorem d3_39 : decode jdk_42_method_149_code 39 = .ok (.astore 5, 2) := by decide +kernel
theorem d3_41 : decode jdk_42_method_149_code 41 = .ok (.aload_n 0, 1) := by decide +kernel
theorem d3_42 : decode jdk_42_method_149_code 42 = .ok (.aload 5, 2) := by decide +kernel
theorem d3_44 : decode jdk_42_method_149_code 44 = .ok (.iload_n 3, 1) := by decide +kernel
theorem d3_45 : decode jdk_42_method_149_code 45 = .ok (.invokestatic 47, 3) := by decide +kernel
theorem pd_pABIrB : parseMethodDescriptor "([BI)B" = some ⟨[(.array .byte), .int], some .byte⟩ := by decide +kernel
theorem d3_48 : decode jdk_42_method_149_code 48 = .ok (.putfield 15, 3) := by decide +kernel
theorem d3_51 : decode jdk_42_method_149_code 51 = .ok (.aload_n 0, 1) := by decide +kernel
theorem d3_52 : decode jdk_42_method_149_code 52 = .ok (.aload 5, 2) := by decide +kernel
theorem d3_54 : decode jdk_42_method_149_code 54 = .ok (.putfield 9, 3) := by decide +kernel
theorem d3_57 : decode jdk_42_method_149_code 57 = .ok (.return_, 1) := by decide +kernel
theorem ef_str4_new (m : MethodId) (x_ : Addr) (s_ : Addr) : entryFrame m #[(rr x_), (rr s_), (ii 0), (ii 3), .null] 6 = mkF m 0 #[vr x_, vr s_, vi 0, vi 3, .val .null, u_] [] := by first | (simp [entryFrame, mkF, argsToLocals, Value.category]; done) | rfl
def Q_str4_new (Z : State) (x_ : Addr) (s_ : Addr) (ks_ : ClassId) (z_ : Int32) (h0 : Heap) (n0 : Nat) (v : Option Value) (h : Heap) (L : List Loc) : Prop := v = none ∧ Fr n0 L ∧ Keep h0 h [x_] ∧ Exa Z h x_ nm1 ∧ Fld Z h x_ nm1 "coder" "B" (ii 0) ∧ ∃ (b_ : Addr), ∃ (kb_ : ClassId), Fld Z h x_ nm1 "value" "[B" (rr b_) ∧ Arv Z h b_ kb_ .byte (3 : Int32) [(ii 110), (ii 101), (ii 119)] (ii 0) ∧ n0 ≤ b_ ∧ h0.size ≤ b_
set_option maxRecDepth 65536 in
set_option maxHeartbeats 40000000 in
theorem rm_str4_new (l : Launch) (Z : State) (a0 : Array Value) (hw : HW Z a0) (ws : List Jvm.Cond) (x_ : Addr) (s_ : Addr) (ks_ : ClassId) (z_ : Int32) (h0 : Heap) (n0 : Nat) (O0 : Old Z n0 h0) (E0_ : Exa Z h0 x_ nm1) (F1_ : Fld Z h0 x_ nm1 "value" "[B" .null) (F2_ : Fld Z h0 x_ nm1 "coder" "B" (ii 0)) (G3_ : n0 ≤ x_) (A4_ : Arv Z h0 s_ ks_ .char (3 : Int32) [(ii 110), (ii 101), (ii 119)] (ii 0)) (ZS5_ : Sta Z Z.heap nm1 "COMPACT_STRINGS" "Z" (.int z_)) (hz_ : ¬ (z_ = (0 : Int32))) :
  MFP l Z (⟨nm1, "<init>", "([CIILjava/lang/Void;)V"⟩ : MethodName) jdk_42_method_149_code 6 none ({ frames := 2, cells := 1, slots := 3, locals := 35 } : Room) ws #[(rr x_), (rr s_), (ii 0), (ii 3), .null] h0 (Q_str4_new Z x_ s_ ks_ z_ h0 n0) := by
 refine MetFree.of_bodySF (plainFor_of_name pn_java_lang_String) hisR ?_
 intro p e s m args below meth c s₁ Bd hml0 hP hK
 obtain ⟨rfl, hZ, hh⟩ := hP
 have hx := Bd.exec
 have hby := Bd.bytes
 have hml : c.maxLocals = 6 := hml0
 have hown : s.vm.findClass nm1 = some m.cls := findClass_of_methodNamed Bd.named
 have hnm := (name_of_methodNamed Bd.named Bd.method).1
 have X0 : Stand p l e ({ frames := 2, cells := 1, slots := 3, locals := 35 } : Room) s m #[(rr x_), (rr s_), (ii 0), (ii 3), .null] below meth c s₁ [] 0 0 := Stand.of_body Bd
 have e0 : s₁.heap = h0 := by rw [← hh, Bd.state]; rfl
 have N0 := Fr.nil n0
 have kp0 : Keep h0 h0 [x_] := Keep.refl _ _
 have c0 : ∀ t, S_ p e below s₁ m 0 #[vr x_, vr s_, vi 0, vi 3, .val .null, u_] [] t → Steps p.tables e below (s₁.setTop (entryFrame m #[(rr x_), (rr s_), (ii 0), (ii 3), .null] 6)) t := fun t k => castTop (ef_str4_new m x_ s_) k
 generalize s₁.setTop (entryFrame m #[(rr x_), (rr s_), (ii 0), (ii 3), .null] 6) = st0 at c0 ⊢
 replace c0 : Kt p e below s₁ st0 (mkF m 0 #[vr x_, vr s_, vi 0, vi 3, .val .null, u_] []) := c0
 have c1 : Kt p e below s₁ st0 (mkF m 1 #[vr x_, vr s_, vi 0, vi 3, .val .null, u_] [(rr x_)]) := fun t k => by
  refine c0 t ?_
  show S_ p e below s₁ m 0 #[vr x_, vr s_, vi 0, vi 3, .val .null, u_] [] t
  refine XS.aloadN X0.here hx rfl (hb hby d3_0) rfl rfl ?_
  exact k
 obtain ⟨T2, X2, e2, c2⟩ := kinit X0 hx hZ hown (w14 hw) (w15 hw) (w16 hw) e0 c1 rfl hml rfl rfl (hb hby d3_1) 0 (own_w rfl) (by decide) (by decide)
 have c3 : Kt p e below T2 st0 (mkF m 27 #[vr x_, vr s_, vi 0, vi 3, .val .null, u_] []) := fun t k => by
  refine c2 t ?_
  show S_ p e below T2 m 4 #[vr x_, vr s_, vi 0, vi 3, .val .null, u_] [] t
  refine XS.iloadN X2.here hx rfl (hb hby d3_4) rfl ?_
  show S_ p e below T2 m 5 #[vr x_, vr s_, vi 0, vi 3, .val .null, u_] [(ii 3)] t
  refine yI X2.here hx rfl 5 27 rfl (hb hby d3_5) rfl rfl ?_
  exact k
 obtain ⟨T4, X4, e4, c4⟩ := kgetS X2 hx hZ hown (host := "") (Or.inl (w17 hw)) Via.refl e2 (ZS5_.ext O0.2) c3 rfl (hb hby d3_27)
 have c5 : Kt p e below T4 st0 (mkF m 36 #[vr x_, vr s_, vi 0, vi 3, .val .null, u_] [(ii 3), (ii 0), (rr s_)]) := fun t k => by
  refine c4 t ?_
  show S_ p e below T4 m 30 #[vr x_, vr s_, vi 0, vi 3, .val .null, u_] [(.int z_)] t
  refine XS.ifNo X4.here hx rfl (hb hby d3_30) rfl ((if0 _ _).trans (feq hz_).1) ?_
  show S_ p e below T4 m 33 #[vr x_, vr s_, vi 0, vi 3, .val .null, u_] [] t
  refine XS.aloadN X4.here hx rfl (hb hby d3_33) rfl rfl ?_
  show S_ p e below T4 m 34 #[vr x_, vr s_, vi 0, vi 3, .val .null, u_] [(rr s_)] t
  refine XS.iloadN X4.here hx rfl (hb hby d3_34) rfl ?_
  show S_ p e below T4 m 35 #[vr x_, vr s_, vi 0, vi 3, .val .null, u_] [(ii 0), (rr s_)] t
  refine XS.iloadN X4.here hx rfl (hb hby d3_35) rfl ?_
  exact k
 obtain ⟨_, T6, L6, X6, hQ6, c6⟩ := kstat X4 hx hZ hown (w18 hw) (w19 hw) (w20 hw) (w21 hw) (rm_cmp3_new l Z a0 hw [] s_ ks_ h0 n0 O0 A4_) e4 c5 hml pd_pACIIrAB [(rr s_), (ii 0), (ii 3)] [] 0 (hb hby d3_36) rfl rfl rfl rfl rfl rfl
 obtain ⟨b7, k8, rfl, N9q, K10, p11, p12, p13⟩ := hQ6
 have N9 := Fr.app N0 N9q
 have o14 := O0.keep K10 all0
 have kp15 := kp0.trans K10 all0
 have z16 := Nat.le_trans kp0.1 p13
 have g17 := Nat.le_trans (Nat.le_trans (Nat.le_of_eq O0.1.symm) O0.2.1) p13
 have c18 : Kt p e below T6 st0 (mkF m 45 #[vr x_, vr s_, vi 0, vi 3, .val .null, vr b7] [(ii 3), (rr b7), (rr x_)]) := fun t k => by
  refine c6 t ?_
  show S_ p e below T6 m 39 #[vr x_, vr s_, vi 0, vi 3, .val .null, u_] [(rr b7)] t
  refine XS.astore X6.here hx rfl (hb hby d3_39) rfl rfl (l' := #[vr x_, vr s_, vi 0, vi 3, .val .null, vr b7]) rfl ?_
  show S_ p e below T6 m 41 #[vr x_, vr s_, vi 0, vi 3, .val .null, vr b7] [] t
  refine XS.aloadN X6.here hx rfl (hb hby d3_41) rfl rfl ?_
  show S_ p e below T6 m 42 #[vr x_, vr s_, vi 0, vi 3, .val .null, vr b7] [(rr x_)] t
  refine XS.aload X6.here hx rfl (hb hby d3_42) rfl rfl ?_
  show S_ p e below T6 m 44 #[vr x_, vr s_, vi 0, vi 3, .val .null, vr b7] [(rr b7), (rr x_)] t
  refine XS.iloadN X6.here hx rfl (hb hby d3_44) rfl ?_
  exact k
 obtain ⟨_, T19, L19, X19, hQ19, c19⟩ := kstat X6 hx hZ hown (w26 hw) (w27 hw) (w20 hw) (w28 hw) (rm_codl_3 l Z a0 hw [] b7 k8 [(ii 110), (ii 101), (ii 119)] T6.heap n0 o14 p11) rfl c18 hml pd_pABIrB [(rr b7), (ii 3)] [(rr x_)] 1 (hb hby d3_45) rfl rfl rfl rfl rfl rfl
 obtain ⟨rfl, N20q, K21⟩ := hQ19
 have N20 := Fr.app N9 N20q
 obtain ⟨T22, h22, X22, e22, W22, f23, o25, N24, c22⟩ := kput X19 hx hZ .byte hown (host := "") (Or.inl (w29 hw)) Via.refl K21 (F2_.keep K10 nin0) (E0_.keep K10) (Or.inr ⟨(w30 hw), rfl, hnm⟩) (w5 hw) c19 rfl rfl (hb hby d3_48) (by decide) rfl rfl o14 N20 G3_
 have kp26 := kp15.wr W22 (Or.inl (List.mem_of_getElem? (i := 0) rfl))
 have f27 := (F1_.keep K10 nin0).other W22 (Or.inr (slot_ne (Or.inr (w32 hw)) (Or.inr (w30 hw)) (by decide) (t := (.array .byte)) (t' := .byte) (by decide) (by decide)))
 have c28 : Kt p e below T22 st0 (mkF m 54 #[vr x_, vr s_, vi 0, vi 3, .val .null, vr b7] [(rr b7), (rr x_)]) := fun t k => by
  refine c22 t ?_
  show S_ p e below T22 m 51 #[vr x_, vr s_, vi 0, vi 3, .val .null, vr b7] [] t
  refine XS.aloadN X22.here hx rfl (hb hby d3_51) rfl rfl ?_
  show S_ p e below T22 m 52 #[vr x_, vr s_, vi 0, vi 3, .val .null, vr b7] [(rr x_)] t
  refine XS.aload X22.here hx rfl (hb hby d3_52) rfl rfl ?_
  exact k
 obtain ⟨T29, h29, X29, e29, W29, f30, o32, N31, c29⟩ := kput X22 hx hZ (.array .byte) hown (host := "") (Or.inl (w31 hw)) Via.refl e22 f27 ((E0_.keep K10).wr W22) (Or.inr ⟨(w32 hw), rfl, hnm⟩) (w5 hw) c28 rfl rfl (hb hby d3_54) (by decide) rfl rfl o25 N24 G3_
 have kp33 := kp26.wr W29 (Or.inl (List.mem_of_getElem? (i := 0) rfl))
 have f34 := f23.other W29 (Or.inr (slot_ne (Or.inr (w30 hw)) (Or.inr (w32 hw)) (by decide) (t := .byte) (t' := (.array .byte)) (by decide) (by decide)))
 have q35 := Ne.symm (Nat.ne_of_lt (Nat.lt_of_lt_of_le E0_.lt p13))
 obtain ⟨fs, hr, hrun, hended, hW, hsame⟩ := X29.leave (v := none) (fun _ => rfl)
 refine ⟨_, _, c29 _ ?_, hrun, hended, _, _, rfl, ?_, ⟨_, rfl⟩, hW, hsame.mono (by decide) (by decide)⟩
 ·show S_ p e below T29 m 57 #[vr x_, vr s_, vi 0, vi 3, .val .null, vr b7] [] _
  exact X29.returnOut hx Bd.returns (hb hby d3_57) hr
 ·show Q_str4_new Z x_ s_ ks_ z_ h0 n0 _ T29.heap _
  rw [e29]
  exact ⟨rfl, N31, kp33, (((E0_.keep K10).wr W22).wr W29), f34, b7, k8, f30, ((p11.other W22 q35).other W29 q35), g17, z16⟩
theorem d4_0 : decode jdk_42_method_3_code 0 = .ok (.aload_n 0, 1) := by decide +kernel
theorem d4_1 : decode jdk_42_method_3_code 1 = .ok (.aload_n 1, 1) := by decide +kernel
theorem d4_2 : decode jdk_42_method_3_code 2 = .ok (.iconst 0, 1) := by decide +kernel
theorem d4_3 : decode jdk_42_method_3_code 3 = .ok (.aload_n 1, 1) := by decide +kernel
theorem d4_4 : decode jdk_42_method_3_code 4 = .ok (.arraylength, 1) := by decide +kernel
theorem d4_5 : decode jdk_42_method_3_code 5 = .ok (.aconst_null, 1) := by decide +kernel
theorem d4_6 : decode jdk_42_method_3_code 6 = .ok (.invokespecial 27, 3) := by decide +kernel
theorem pd_pACIILjava_lang_Void_rV : parseMethodDescriptor "([CIILjava/lang/Void;)V" = some ⟨[(.array .char), .int, .int, (.object "java/lang/Void")], none⟩ := by decide +kernel
theorem d4_9 : decode jdk_42_method_3_code 9 = .ok (.return_, 1) := by decide +kernel
theorem ef_str1_new (m : MethodId) (x_ : Addr) (s_ : Addr) : entryFrame m #[(rr x_), (rr s_)] 2 = mkF m 0 #[vr x_, vr s_] [] := by first | (simp [entryFrame, mkF, argsToLocals, Value.category]; done) | rfl
def Q_str1_new (Z : State) (x_ : Addr) (s_ : Addr) (ks_ : ClassId) (z_ : Int32) (h0 : Heap) (n0 : Nat) (v : Option Value) (h : Heap) (L : List Loc) : Prop := v = none ∧ Fr n0 L ∧ Keep h0 h [x_] ∧ Exa Z h x_ nm1 ∧ Fld Z h x_ nm1 "coder" "B" (ii 0) ∧ ∃ (b_ : Addr), ∃ (kb_ : ClassId), Fld Z h x_ nm1 "value" "[B" (rr b_) ∧ Arv Z h b_ kb_ .byte (3 : Int32) [(ii 110), (ii 101), (ii 119)] (ii 0) ∧ n0 ≤ b_ ∧ h0.size ≤ b_
set_option maxRecDepth 65536 in
set_option maxHeartbeats 40000000 in
theorem rm_str1_new (l : Launch) (Z : State) (a0 : Array Value) (hw : HW Z a0) (ws : List Jvm.Cond) (x_ : Addr) (s_ : Addr) (ks_ : ClassId) (z_ : Int32) (h0 : Heap) (n0 : Nat) (O0 : Old Z n0 h0) (E0_ : Exa Z h0 x_ nm1) (F1_ : Fld Z h0 x_ nm1 "value" "[B" .null) (F2_ : Fld Z h0 x_ nm1 "coder" "B" (ii 0)) (G3_ : n0 ≤ x_) (A4_ : Arv Z h0 s_ ks_ .char (3 : Int32) [(ii 110), (ii 101), (ii 119)] (ii 0)) (ZS5_ : Sta Z Z.heap nm1 "COMPACT_STRINGS" "Z" (.int z_)) (hz_ : ¬ (z_ = (0 : Int32))) :
  MFP l Z (⟨nm1, "<init>", "([C)V"⟩ : MethodName) jdk_42_method_3_code 2 none ({ frames := 3, cells := 1, slots := 3, locals := 52 } : Room) ws #[(rr x_), (rr s_)] h0 (Q_str1_new Z x_ s_ ks_ z_ h0 n0) := by
 refine MetFree.of_bodySF (plainFor_of_name pn_java_lang_String) hisR ?_
 intro p e s m args below meth c s₁ Bd hml0 hP hK
 obtain ⟨rfl, hZ, hh⟩ := hP
 have hx := Bd.exec
 have hby := Bd.bytes
 have hml : c.maxLocals = 2 := hml0
 have hown : s.vm.findClass nm1 = some m.cls := findClass_of_methodNamed Bd.named
 have hnm := (name_of_methodNamed Bd.named Bd.method).1
 have X0 : Stand p l e ({ frames := 3, cells := 1, slots := 3, locals := 52 } : Room) s m #[(rr x_), (rr s_)] below meth c s₁ [] 0 0 := Stand.of_body Bd
 have e0 : s₁.heap = h0 := by rw [← hh, Bd.state]; rfl
 have N0 := Fr.nil n0
 have kp0 : Keep h0 h0 [x_] := Keep.refl _ _
 have c0 : ∀ t, S_ p e below s₁ m 0 #[vr x_, vr s_] [] t → Steps p.tables e below (s₁.setTop (entryFrame m #[(rr x_), (rr s_)] 2)) t := fun t k => castTop (ef_str1_new m x_ s_) k
 generalize s₁.setTop (entryFrame m #[(rr x_), (rr s_)] 2) = st0 at c0 ⊢
 replace c0 : Kt p e below s₁ st0 (mkF m 0 #[vr x_, vr s_] []) := c0
 have c1 : Kt p e below s₁ st0 (mkF m 6 #[vr x_, vr s_] [.null, (ii 3), (ii 0), (rr s_), (rr x_)]) := fun t k => by
  refine c0 t ?_
  show S_ p e below s₁ m 0 #[vr x_, vr s_] [] t
  refine XS.aloadN X0.here hx rfl (hb hby d4_0) rfl rfl ?_
  show S_ p e below s₁ m 1 #[vr x_, vr s_] [(rr x_)] t
  refine XS.aloadN X0.here hx rfl (hb hby d4_1) rfl rfl ?_
  show S_ p e below s₁ m 2 #[vr x_, vr s_] [(rr s_), (rr x_)] t
  refine XS.iconst X0.here hx rfl (hb hby d4_2) ?_
  show S_ p e below s₁ m 3 #[vr x_, vr s_] [(ii 0), (rr s_), (rr x_)] t
  refine XS.aloadN X0.here hx rfl (hb hby d4_3) rfl rfl ?_
  show S_ p e below s₁ m 4 #[vr x_, vr s_] [(rr s_), (ii 0), (rr s_), (rr x_)] t
  refine ldLen X0 hx hZ e0 A4_ rfl rfl (hb hby d4_4) ?_
  show S_ p e below s₁ m 5 #[vr x_, vr s_] [(ii 3), (ii 0), (rr s_), (rr x_)] t
  refine XS.aconstNull X0.here hx rfl (hb hby d4_5) ?_
  exact k
 obtain ⟨_, T2, L2, X2, hQ2, c2⟩ := kspec X0 hx hZ hown (w10 hw) (w11 hw) (w6 hw) (w13 hw) (rm_str4_new l Z a0 hw [] x_ s_ ks_ z_ h0 n0 O0 E0_ F1_ F2_ G3_ A4_ ZS5_ hz_) e0 c1 hml pd_pACIILjava_lang_Void_rV x_ [(rr s_), (ii 0), (ii 3), .null] [] 0 (hb hby d4_6) rfl rfl rfl rfl rfl rfl
 obtain ⟨rfl, N3q, K4, p5, p6, b7, k8, p9, p10, p11, p12⟩ := hQ2
 have N3 := Fr.app N0 N3q
 have o13 := O0.keep K4 (allS G3_ all0)
 have kp14 := kp0.trans K4 (allS (Or.inl (List.mem_of_getElem? (i := 0) rfl)) all0)
 have z15 := Nat.le_trans kp0.1 p12
 have g16 := Nat.le_trans (Nat.le_trans (Nat.le_of_eq O0.1.symm) O0.2.1) p12
 obtain ⟨fs, hr, hrun, hended, hW, hsame⟩ := X2.leave (v := none) (fun _ => rfl)
 refine ⟨_, _, c2 _ ?_, hrun, hended, _, _, rfl, ?_, ⟨_, rfl⟩, hW, hsame.mono (by decide) (by decide)⟩
 ·show S_ p e below T2 m 9 #[vr x_, vr s_] [] _
  exact X2.returnOut hx Bd.returns (hb hby d4_9) hr
 ·show Q_str1_new Z x_ s_ ks_ z_ h0 n0 _ T2.heap _
  exact ⟨rfl, N3, kp14, p5, p6, b7, k8, p9, p10, g16, z15⟩
theorem ef_cmp5_changed (m : MethodId) (s_ : Addr) (d_ : Addr) : entryFrame m #[(rr s_), (ii 0), (rr d_), (ii 0), (ii 7)] 7 = mkF m 0 #[vr s_, vi 0, vr d_, vi 0, vi 7, u_, u_] [] := by first | (simp [entryFrame, mkF, argsToLocals, Value.category]; done) | rfl
def Q_cmp5_changed (Z : State) (s_ : Addr) (ks_ : ClassId) (d_ : Addr) (kd_ : ClassId) (h0 : Heap) (n0 : Nat) (v : Option Value) (h : Heap) (L : List Loc) : Prop := v = some (ii 7) ∧ Fr n0 L ∧ Keep h0 h [d_] ∧ Arv Z h d_ kd_ .byte (7 : Int32) [(ii 99), (ii 104), (ii 97), (ii 110), (ii 103), (ii 101), (ii 100)] (ii 0)
set_option maxRecDepth 65536 in
set_option maxHeartbeats 40000000 in
theorem rm_cmp5_changed (l : Launch) (Z : State) (a0 : Array Value) (hw : HW Z a0) (ws : List Jvm.Cond) (s_ : Addr) (ks_ : ClassId) (d_ : Addr) (kd_ : ClassId) (h0 : Heap) (n0 : Nat) (O0 : Old Z n0 h0) (A0_ : Arv Z h0 s_ ks_ .char (7 : Int32) [(ii 99), (ii 104), (ii 97), (ii 110), (ii 103), (ii 101), (ii 100)] (ii 0)) (A1_ : Arv Z h0 d_ kd_ .byte (7 : Int32) [(ii 0), (ii 0), (ii 0), (ii 0), (ii 0), (ii 0), (ii 0)] (ii 0)) (G2_ : n0 ≤ d_) (NE3_ : s_ ≠ d_) :
  MFP l Z (⟨nm4, "compress", "([CI[BII)I"⟩ : MethodName) jdk_52_method_21_code 7 (some .int) ({ frames := 0, cells := 0, slots := 0, locals := 0 } : Room) ws #[(rr s_), (ii 0), (rr d_), (ii 0), (ii 7)] h0 (Q_cmp5_changed Z s_ ks_ d_ kd_ h0 n0) := by
 refine MetFree.of_bodySF (plainFor_of_name pn_java_lang_StringUTF16) hisR ?_
 intro p e s m args below meth c s₁ Bd hml0 hP hK
 obtain ⟨rfl, hZ, hh⟩ := hP
 have hx := Bd.exec
 have hby := Bd.bytes
 have hml : c.maxLocals = 7 := hml0
 have hown : s.vm.findClass nm4 = some m.cls := findClass_of_methodNamed Bd.named
 have hnm := (name_of_methodNamed Bd.named Bd.method).1
 have X0 : Stand p l e ({ frames := 0, cells := 0, slots := 0, locals := 0 } : Room) s m #[(rr s_), (ii 0), (rr d_), (ii 0), (ii 7)] below meth c s₁ [] 0 0 := Stand.of_body Bd
 have e0 : s₁.heap = h0 := by rw [← hh, Bd.state]; rfl
 have N0 := Fr.nil n0
 have kp0 : Keep h0 h0 [d_] := Keep.refl _ _
 have c0 : ∀ t, S_ p e below s₁ m 0 #[vr s_, vi 0, vr d_, vi 0, vi 7, u_, u_] [] t → Steps p.tables e below (s₁.setTop (entryFrame m #[(rr s_), (ii 0), (rr d_), (ii 0), (ii 7)] 7)) t := fun t k => castTop (ef_cmp5_changed m s_ d_) k
 generalize s₁.setTop (entryFrame m #[(rr s_), (ii 0), (rr d_), (ii 0), (ii 7)] 7) = st0 at c0 ⊢
 replace c0 : Kt p e below s₁ st0 (mkF m 0 #[vr s_, vi 0, vr d_, vi 0, vi 7, u_, u_] []) := c0
 have c1 : Kt p e below s₁ st0 (mkF m 31 #[vr s_, vi 0, vr d_, vi 0, vi 7, vi 0, vi 99] [(ii 99), (ii 0), (rr d_)]) := fun t k => by
  refine c0 t ?_
  show S_ p e below s₁ m 0 #[vr s_, vi 0, vr d_, vi 0, vi 7, u_, u_] [] t
  refine XS.iconst X0.here hx rfl (hb hby d0_0) ?_
  show S_ p e below s₁ m 1 #[vr s_, vi 0, vr d_, vi 0, vi 7, u_, u_] [(ii 0)] t
  refine XS.istore X0.here hx rfl (hb hby d0_1) rfl (l' := #[vr s_, vi 0, vr d_, vi 0, vi 7, vi 0, u_]) rfl ?_
  show S_ p e below s₁ m 3 #[vr s_, vi 0, vr d_, vi 0, vi 7, vi 0, u_] [] t
  refine XS.iload X0.here hx rfl (hb hby d0_3) rfl ?_
  show S_ p e below s₁ m 5 #[vr s_, vi 0, vr d_, vi 0, vi 7, vi 0, u_] [(ii 0)] t
  refine XS.iload X0.here hx rfl (hb hby d0_5) rfl ?_
  show S_ p e below s₁ m 7 #[vr s_, vi 0, vr d_, vi 0, vi 7, vi 0, u_] [(ii 7), (ii 0)] t
  refine XS.icmpNo X0.here hx rfl (hb hby d0_7) rfl rfl ?_
  show S_ p e below s₁ m 10 #[vr s_, vi 0, vr d_, vi 0, vi 7, vi 0, u_] [] t
  refine XS.aloadN X0.here hx rfl (hb hby d0_10) rfl rfl ?_
  show S_ p e below s₁ m 11 #[vr s_, vi 0, vr d_, vi 0, vi 7, vi 0, u_] [(rr s_)] t
  refine XS.iloadN X0.here hx rfl (hb hby d0_11) rfl ?_
  show S_ p e below s₁ m 12 #[vr s_, vi 0, vr d_, vi 0, vi 7, vi 0, u_] [(ii 0), (rr s_)] t
  refine ldC X0 hx hZ e0 A0_ (v := (ii 99)) (by decide) (by decide) rfl rfl rfl (hb hby d0_12) ?_
  show S_ p e below s₁ m 13 #[vr s_, vi 0, vr d_, vi 0, vi 7, vi 0, u_] [(ii 99)] t
  refine XS.istore X0.here hx rfl (hb hby d0_13) rfl (l' := #[vr s_, vi 0, vr d_, vi 0, vi 7, vi 0, vi 99]) rfl ?_
  show S_ p e below s₁ m 15 #[vr s_, vi 0, vr d_, vi 0, vi 7, vi 0, vi 99] [] t
  refine XS.iload X0.here hx rfl (hb hby d0_15) rfl ?_
  show S_ p e below s₁ m 17 #[vr s_, vi 0, vr d_, vi 0, vi 7, vi 0, vi 99] [(ii 99)] t
  refine XS.sipush X0.here hx rfl (hb hby d0_17) ?_
  show S_ p e below s₁ m 20 #[vr s_, vi 0, vr d_, vi 0, vi 7, vi 0, vi 99] [(ii 255), (ii 99)] t
  refine yC X0.here hx rfl 20 26 rfl (hb hby d0_20) rfl rfl ?_
  show S_ p e below s₁ m 26 #[vr s_, vi 0, vr d_, vi 0, vi 7, vi 0, vi 99] [] t
  refine XS.aloadN X0.here hx rfl (hb hby d0_26) rfl rfl ?_
  show S_ p e below s₁ m 27 #[vr s_, vi 0, vr d_, vi 0, vi 7, vi 0, vi 99] [(rr d_)] t
  refine XS.iloadN X0.here hx rfl (hb hby d0_27) rfl ?_
  show S_ p e below s₁ m 28 #[vr s_, vi 0, vr d_, vi 0, vi 7, vi 0, vi 99] [(ii 0), (rr d_)] t
  refine XS.iload X0.here hx rfl (hb hby d0_28) rfl ?_
  show S_ p e below s₁ m 30 #[vr s_, vi 0, vr d_, vi 0, vi 7, vi 0, vi 99] [(ii 99), (ii 0), (rr d_)] t
  refine XS.i2b X0.here hx rfl (hb hby d0_30) rfl ?_
  exact k
 obtain ⟨T2, h2, X2, e2, W2, f5, o3, N4, c2⟩ := kstB X0 hx hZ e0 A1_ (j := (0 : Int32)) (by decide) (by decide) 0 rfl (Nat.le_of_ble_eq_true rfl) c1 rfl rfl (hb hby d0_31) O0 N0 G2_
 have f6 : Arv Z h2 d_ kd_ .byte (7 : Int32) [(ii 99), (ii 0), (ii 0), (ii 0), (ii 0), (ii 0), (ii 0)] (ii 0) := f5
 have kp7 := kp0.wr W2 (Or.inl (List.mem_of_getElem? (i := 0) rfl))
 have c8 : Kt p e below T2 st0 (mkF m 31 #[vr s_, vi 1, vr d_, vi 1, vi 7, vi 1, vi 104] [(ii 104), (ii 1), (rr d_)]) := fun t k => by
  refine c2 t ?_
  show S_ p e below T2 m 32 #[vr s_, vi 0, vr d_, vi 0, vi 7, vi 0, vi 99] [] t
  refine XS.iinc X2.here hx rfl (hb hby d0_32) rfl (l' := #[vr s_, vi 1, vr d_, vi 0, vi 7, vi 0, vi 99]) rfl ?_
  show S_ p e below T2 m 35 #[vr s_, vi 1, vr d_, vi 0, vi 7, vi 0, vi 99] [] t
  refine XS.iinc X2.here hx rfl (hb hby d0_35) rfl (l' := #[vr s_, vi 1, vr d_, vi 1, vi 7, vi 0, vi 99]) rfl ?_
  show S_ p e below T2 m 38 #[vr s_, vi 1, vr d_, vi 1, vi 7, vi 0, vi 99] [] t
  refine XS.iinc X2.here hx rfl (hb hby d0_38) rfl (l' := #[vr s_, vi 1, vr d_, vi 1, vi 7, vi 1, vi 99]) rfl ?_
  show S_ p e below T2 m 41 #[vr s_, vi 1, vr d_, vi 1, vi 7, vi 1, vi 99] [] t
  refine yG X2.here hx rfl 41 3 rfl (hb hby d0_41) ?_
  show S_ p e below T2 m 3 #[vr s_, vi 1, vr d_, vi 1, vi 7, vi 1, vi 99] [] t
  refine XS.iload X2.here hx rfl (hb hby d0_3) rfl ?_
  show S_ p e below T2 m 5 #[vr s_, vi 1, vr d_, vi 1, vi 7, vi 1, vi 99] [(ii 1)] t
  refine XS.iload X2.here hx rfl (hb hby d0_5) rfl ?_
  show S_ p e below T2 m 7 #[vr s_, vi 1, vr d_, vi 1, vi 7, vi 1, vi 99] [(ii 7), (ii 1)] t
  refine XS.icmpNo X2.here hx rfl (hb hby d0_7) rfl rfl ?_
  show S_ p e below T2 m 10 #[vr s_, vi 1, vr d_, vi 1, vi 7, vi 1, vi 99] [] t
  refine XS.aloadN X2.here hx rfl (hb hby d0_10) rfl rfl ?_
  show S_ p e below T2 m 11 #[vr s_, vi 1, vr d_, vi 1, vi 7, vi 1, vi 99] [(rr s_)] t
  refine XS.iloadN X2.here hx rfl (hb hby d0_11) rfl ?_
  show S_ p e below T2 m 12 #[vr s_, vi 1, vr d_, vi 1, vi 7, vi 1, vi 99] [(ii 1), (rr s_)] t
  refine ldC X2 hx hZ e2 (A0_.other W2 NE3_) (v := (ii 104)) (by decide) (by decide) rfl rfl rfl (hb hby d0_12) ?_
  show S_ p e below T2 m 13 #[vr s_, vi 1, vr d_, vi 1, vi 7, vi 1, vi 99] [(ii 104)] t
  refine XS.istore X2.here hx rfl (hb hby d0_13) rfl (l' := #[vr s_, vi 1, vr d_, vi 1, vi 7, vi 1, vi 104]) rfl ?_
  show S_ p e below T2 m 15 #[vr s_, vi 1, vr d_, vi 1, vi 7, vi 1, vi 104] [] t
  refine XS.iload X2.here hx rfl (hb hby d0_15) rfl ?_
  show S_ p e below T2 m 17 #[vr s_, vi 1, vr d_, vi 1, vi 7, vi 1, vi 104] [(ii 104)] t
  refine XS.sipush X2.here hx rfl (hb hby d0_17) ?_
  show S_ p e below T2 m 20 #[vr s_, vi 1, vr d_, vi 1, vi 7, vi 1, vi 104] [(ii 255), (ii 104)] t
  refine yC X2.here hx rfl 20 26 rfl (hb hby d0_20) rfl rfl ?_
  show S_ p e below T2 m 26 #[vr s_, vi 1, vr d_, vi 1, vi 7, vi 1, vi 104] [] t
  refine XS.aloadN X2.here hx rfl (hb hby d0_26) rfl rfl ?_
  show S_ p e below T2 m 27 #[vr s_, vi 1, vr d_, vi 1, vi 7, vi 1, vi 104] [(rr d_)] t
  refine XS.iloadN X2.here hx rfl (hb hby d0_27) rfl ?_
  show S_ p e below T2 m 28 #[vr s_, vi 1, vr d_, vi 1, vi 7, vi 1, vi 104] [(ii 1), (rr d_)] t
  refine XS.iload X2.here hx rfl (hb hby d0_28) rfl ?_
  show S_ p e below T2 m 30 #[vr s_, vi 1, vr d_, vi 1, vi 7, vi 1, vi 104] [(ii 104), (ii 1), (rr d_)] t
  refine XS.i2b X2.here hx rfl (hb hby d0_30) rfl ?_
  exact k
 obtain ⟨T9, h9, X9, e9, W9, f12, o10, N11, c9⟩ := kstB X2 hx hZ e2 f6 (j := (1 : Int32)) (by decide) (by decide) 1 rfl (Nat.le_of_ble_eq_true rfl) c8 rfl rfl (hb hby d0_31) o3 N4 G2_
 have f13 : Arv Z h9 d_ kd_ .byte (7 : Int32) [(ii 99), (ii 104), (ii 0), (ii 0), (ii 0), (ii 0), (ii 0)] (ii 0) := f12
 have kp14 := kp7.wr W9 (Or.inl (List.mem_of_getElem? (i := 0) rfl))
 have c15 : Kt p e below T9 st0 (mkF m 31 #[vr s_, vi 2, vr d_, vi 2, vi 7, vi 2, vi 97] [(ii 97), (ii 2), (rr d_)]) := fun t k => by
  refine c9 t ?_
  show S_ p e below T9 m 32 #[vr s_, vi 1, vr d_, vi 1, vi 7, vi 1, vi 104] [] t
  refine XS.iinc X9.here hx rfl (hb hby d0_32) rfl (l' := #[vr s_, vi 2, vr d_, vi 1, vi 7, vi 1, vi 104]) rfl ?_
  show S_ p e below T9 m 35 #[vr s_, vi 2, vr d_, vi 1, vi 7, vi 1, vi 104] [] t
  refine XS.iinc X9.here hx rfl (hb hby d0_35) rfl (l' := #[vr s_, vi 2, vr d_, vi 2, vi 7, vi 1, vi 104]) rfl ?_
  show S_ p e below T9 m 38 #[vr s_, vi 2, vr d_, vi 2, vi 7, vi 1, vi 104] [] t
  refine XS.iinc X9.here hx rfl (hb hby d0_38) rfl (l' := #[vr s_, vi 2, vr d_, vi 2, vi 7, vi 2, vi 104]) rfl ?_
  show S_ p e below T9 m 41 #[vr s_, vi 2, vr d_, vi 2, vi 7, vi 2, vi 104] [] t
  refine yG X9.here hx rfl 41 3 rfl (hb hby d0_41) ?_
  show S_ p e below T9 m 3 #[vr s_, vi 2, vr d_, vi 2, vi 7, vi 2, vi 104] [] t
  refine XS.iload X9.here hx rfl (hb hby d0_3) rfl ?_
  show S_ p e below T9 m 5 #[vr s_, vi 2, vr d_, vi 2, vi 7, vi 2, vi 104] [(ii 2)] t
  refine XS.iload X9.here hx rfl (hb hby d0_5) rfl ?_
  show S_ p e below T9 m 7 #[vr s_, vi 2, vr d_, vi 2, vi 7, vi 2, vi 104] [(ii 7), (ii 2)] t
  refine XS.icmpNo X9.here hx rfl (hb hby d0_7) rfl rfl ?_
  show S_ p e below T9 m 10 #[vr s_, vi 2, vr d_, vi 2, vi 7, vi 2, vi 104] [] t
  refine XS.aloadN X9.here hx rfl (hb hby d0_10) rfl rfl ?_
  show S_ p e below T9 m 11 #[vr s_, vi 2, vr d_, vi 2, vi 7, vi 2, vi 104] [(rr s_)] t
  refine XS.iloadN X9.here hx rfl (hb hby d0_11) rfl ?_
  show S_ p e below T9 m 12 #[vr s_, vi 2, vr d_, vi 2, vi 7, vi 2, vi 104] [(ii 2), (rr s_)] t
  refine ldC X9 hx hZ e9 ((A0_.other W2 NE3_).other W9 NE3_) (v := (ii 97)) (by decide) (by decide) rfl rfl rfl (hb hby d0_12) ?_
  show S_ p e below T9 m 13 #[vr s_, vi 2, vr d_, vi 2, vi 7, vi 2, vi 104] [(ii 97)] t
  refine XS.istore X9.here hx rfl (hb hby d0_13) rfl (l' := #[vr s_, vi 2, vr d_, vi 2, vi 7, vi 2, vi 97]) rfl ?_
  show S_ p e below T9 m 15 #[vr s_, vi 2, vr d_, vi 2, vi 7, vi 2, vi 97] [] t
  refine XS.iload X9.here hx rfl (hb hby d0_15) rfl ?_
  show S_ p e below T9 m 17 #[vr s_, vi 2, vr d_, vi 2, vi 7, vi 2, vi 97] [(ii 97)] t
  refine XS.sipush X9.here hx rfl (hb hby d0_17) ?_
  show S_ p e below T9 m 20 #[vr s_, vi 2, vr d_, vi 2, vi 7, vi 2, vi 97] [(ii 255), (ii 97)] t
  refine yC X9.here hx rfl 20 26 rfl (hb hby d0_20) rfl rfl ?_
  show S_ p e below T9 m 26 #[vr s_, vi 2, vr d_, vi 2, vi 7, vi 2, vi 97] [] t
  refine XS.aloadN X9.here hx rfl (hb hby d0_26) rfl rfl ?_
  show S_ p e below T9 m 27 #[vr s_, vi 2, vr d_, vi 2, vi 7, vi 2, vi 97] [(rr d_)] t
  refine XS.iloadN X9.here hx rfl (hb hby d0_27) rfl ?_
  show S_ p e below T9 m 28 #[vr s_, vi 2, vr d_, vi 2, vi 7, vi 2, vi 97] [(ii 2), (rr d_)] t
  refine XS.iload X9.here hx rfl (hb hby d0_28) rfl ?_
  show S_ p e below T9 m 30 #[vr s_, vi 2, vr d_, vi 2, vi 7, vi 2, vi 97] [(ii 97), (ii 2), (rr d_)] t
  refine XS.i2b X9.here hx rfl (hb hby d0_30) rfl ?_
  exact k
 obtain ⟨T16, h16, X16, e16, W16, f19, o17, N18, c16⟩ := kstB X9 hx hZ e9 f13 (j := (2 : Int32)) (by decide) (by decide) 2 rfl (Nat.le_of_ble_eq_true rfl) c15 rfl rfl (hb hby d0_31) o10 N11 G2_
 have f20 : Arv Z h16 d_ kd_ .byte (7 : Int32) [(ii 99), (ii 104), (ii 97), (ii 0), (ii 0), (ii 0), (ii 0)] (ii 0) := f19
 have kp21 := kp14.wr W16 (Or.inl (List.mem_of_getElem? (i := 0) rfl))
 have c22 : Kt p e below T16 st0 (mkF m 31 #[vr s_, vi 3, vr d_, vi 3, vi 7, vi 3, vi 110] [(ii 110), (ii 3), (rr d_)]) := fun t k => by
  refine c16 t ?_
  show S_ p e below T16 m 32 #[vr s_, vi 2, vr d_, vi 2, vi 7, vi 2, vi 97] [] t
  refine XS.iinc X16.here hx rfl (hb hby d0_32) rfl (l' := #[vr s_, vi 3, vr d_, vi 2, vi 7, vi 2, vi 97]) rfl ?_
  show S_ p e below T16 m 35 #[vr s_, vi 3, vr d_, vi 2, vi 7, vi 2, vi 97] [] t
  refine XS.iinc X16.here hx rfl (hb hby d0_35) rfl (l' := #[vr s_, vi 3, vr d_, vi 3, vi 7, vi 2, vi 97]) rfl ?_
  show S_ p e below T16 m 38 #[vr s_, vi 3, vr d_, vi 3, vi 7, vi 2, vi 97] [] t
  refine XS.iinc X16.here hx rfl (hb hby d0_38) rfl (l' := #[vr s_, vi 3, vr d_, vi 3, vi 7, vi 3, vi 97]) rfl ?_
  show S_ p e below T16 m 41 #[vr s_, vi 3, vr d_, vi 3, vi 7, vi 3, vi 97] [] t
  refine yG X16.here hx rfl 41 3 rfl (hb hby d0_41) ?_
  show S_ p e below T16 m 3 #[vr s_, vi 3, vr d_, vi 3, vi 7, vi 3, vi 97] [] t
  refine XS.iload X16.here hx rfl (hb hby d0_3) rfl ?_
  show S_ p e below T16 m 5 #[vr s_, vi 3, vr d_, vi 3, vi 7, vi 3, vi 97] [(ii 3)] t
  refine XS.iload X16.here hx rfl (hb hby d0_5) rfl ?_
  show S_ p e below T16 m 7 #[vr s_, vi 3, vr d_, vi 3, vi 7, vi 3, vi 97] [(ii 7), (ii 3)] t
  refine XS.icmpNo X16.here hx rfl (hb hby d0_7) rfl rfl ?_
  show S_ p e below T16 m 10 #[vr s_, vi 3, vr d_, vi 3, vi 7, vi 3, vi 97] [] t
  refine XS.aloadN X16.here hx rfl (hb hby d0_10) rfl rfl ?_
  show S_ p e below T16 m 11 #[vr s_, vi 3, vr d_, vi 3, vi 7, vi 3, vi 97] [(rr s_)] t
  refine XS.iloadN X16.here hx rfl (hb hby d0_11) rfl ?_
  show S_ p e below T16 m 12 #[vr s_, vi 3, vr d_, vi 3, vi 7, vi 3, vi 97] [(ii 3), (rr s_)] t
  refine ldC X16 hx hZ e16 (((A0_.other W2 NE3_).other W9 NE3_).other W16 NE3_) (v := (ii 110)) (by decide) (by decide) rfl rfl rfl (hb hby d0_12) ?_
  show S_ p e below T16 m 13 #[vr s_, vi 3, vr d_, vi 3, vi 7, vi 3, vi 97] [(ii 110)] t
  refine XS.istore X16.here hx rfl (hb hby d0_13) rfl (l' := #[vr s_, vi 3, vr d_, vi 3, vi 7, vi 3, vi 110]) rfl ?_
  show S_ p e below T16 m 15 #[vr s_, vi 3, vr d_, vi 3, vi 7, vi 3, vi 110] [] t
  refine XS.iload X16.here hx rfl (hb hby d0_15) rfl ?_
  show S_ p e below T16 m 17 #[vr s_, vi 3, vr d_, vi 3, vi 7, vi 3, vi 110] [(ii 110)] t
  refine XS.sipush X16.here hx rfl (hb hby d0_17) ?_
  show S_ p e below T16 m 20 #[vr s_, vi 3, vr d_, vi 3, vi 7, vi 3, vi 110] [(ii 255), (ii 110)] t
  refine yC X16.here hx rfl 20 26 rfl (hb hby d0_20) rfl rfl ?_
  show S_ p e below T16 m 26 #[vr s_, vi 3, vr d_, vi 3, vi 7, vi 3, vi 110] [] t
  refine XS.aloadN X16.here hx rfl (hb hby d0_26) rfl rfl ?_
  show S_ p e below T16 m 27 #[vr s_, vi 3, vr d_, vi 3, vi 7, vi 3, vi 110] [(rr d_)] t
  refine XS.iloadN X16.here hx rfl (hb hby d0_27) rfl ?_
  show S_ p e below T16 m 28 #[vr s_, vi 3, vr d_, vi 3, vi 7, vi 3, vi 110] [(ii 3), (rr d_)] t
  refine XS.iload X16.here hx rfl (hb hby d0_28) rfl ?_
  show S_ p e below T16 m 30 #[vr s_, vi 3, vr d_, vi 3, vi 7, vi 3, vi 110] [(ii 110), (ii 3), (rr d_)] t
  refine XS.i2b X16.here hx rfl (hb hby d0_30) rfl ?_
  exact k
 obtain ⟨T23, h23, X23, e23, W23, f26, o24, N25, c23⟩ := kstB X16 hx hZ e16 f20 (j := (3 : Int32)) (by decide) (by decide) 3 rfl (Nat.le_of_ble_eq_true rfl) c22 rfl rfl (hb hby d0_31) o17 N18 G2_
 have f27 : Arv Z h23 d_ kd_ .byte (7 : Int32) [(ii 99), (ii 104), (ii 97), (ii 110), (ii 0), (ii 0), (ii 0)] (ii 0) := f26
 have kp28 := kp21.wr W23 (Or.inl (List.mem_of_getElem? (i := 0) rfl))
 have c29 : Kt p e below T23 st0 (mkF m 31 #[vr s_, vi 4, vr d_, vi 4, vi 7, vi 4, vi 103] [(ii 103), (ii 4), (rr d_)]) := fun t k => by
  refine c23 t ?_
  show S_ p e below T23 m 32 #[vr s_, vi 3, vr d_, vi 3, vi 7, vi 3, vi 110] [] t
  refine XS.iinc X23.here hx rfl (hb hby d0_32) rfl (l' := #[vr s_, vi 4, vr d_, vi 3, vi 7, vi 3, vi 110]) rfl ?_
  show S_ p e below T23 m 35 #[vr s_, vi 4, vr d_, vi 3, vi 7, vi 3, vi 110] [] t
  refine XS.iinc X23.here hx rfl (hb hby d0_35) rfl (l' := #[vr s_, vi 4, vr d_, vi 4, vi 7, vi 3, vi 110]) rfl ?_
  show S_ p e below T23 m 38 #[vr s_, vi 4, vr d_, vi 4, vi 7, vi 3, vi 110] [] t
  refine XS.iinc X23.here hx rfl (hb hby d0_38) rfl (l' := #[vr s_, vi 4, vr d_, vi 4, vi 7, vi 4, vi 110]) rfl ?_
  show S_ p e below T23 m 41 #[vr s_, vi 4, vr d_, vi 4, vi 7, vi 4, vi 110] [] t
  refine yG X23.here hx rfl 41 3 rfl (hb hby d0_41) ?_
  show S_ p e below T23 m 3 #[vr s_, vi 4, vr d_, vi 4, vi 7, vi 4, vi 110] [] t
  refine XS.iload X23.here hx rfl (hb hby d0_3) rfl ?_
  show S_ p e below T23 m 5 #[vr s_, vi 4, vr d_, vi 4, vi 7, vi 4, vi 110] [(ii 4)] t
  refine XS.iload X23.here hx rfl (hb hby d0_5) rfl ?_
  show S_ p e below T23 m 7 #[vr s_, vi 4, vr d_, vi 4, vi 7, vi 4, vi 110] [(ii 7), (ii 4)] t
  refine XS.icmpNo X23.here hx rfl (hb hby d0_7) rfl rfl ?_
  show S_ p e below T23 m 10 #[vr s_, vi 4, vr d_, vi 4, vi 7, vi 4, vi 110] [] t
  refine XS.aloadN X23.here hx rfl (hb hby d0_10) rfl rfl ?_
  show S_ p e below T23 m 11 #[vr s_, vi 4, vr d_, vi 4, vi 7, vi 4, vi 110] [(rr s_)] t
  refine XS.iloadN X23.here hx rfl (hb hby d0_11) rfl ?_
  show S_ p e below T23 m 12 #[vr s_, vi 4, vr d_, vi 4, vi 7, vi 4, vi 110] [(ii 4), (rr s_)] t
  refine ldC X23 hx hZ e23 ((((A0_.other W2 NE3_).other W9 NE3_).other W16 NE3_).other W23 NE3_) (v := (ii 103)) (by decide) (by decide) rfl rfl rfl (hb hby d0_12) ?_
  show S_ p e below T23 m 13 #[vr s_, vi 4, vr d_, vi 4, vi 7, vi 4, vi 110] [(ii 103)] t
  refine XS.istore X23.here hx rfl (hb hby d0_13) rfl (l' := #[vr s_, vi 4, vr d_, vi 4, vi 7, vi 4, vi 103]) rfl ?_
  show S_ p e below T23 m 15 #[vr s_, vi 4, vr d_, vi 4, vi 7, vi 4, vi 103] [] t
  refine XS.iload X23.here hx rfl (hb hby d0_15) rfl ?_
  show S_ p e below T23 m 17 #[vr s_, vi 4, vr d_, vi 4, vi 7, vi 4, vi 103] [(ii 103)] t
  refine XS.sipush X23.here hx rfl (hb hby d0_17) ?_
  show S_ p e below T23 m 20 #[vr s_, vi 4, vr d_, vi 4, vi 7, vi 4, vi 103] [(ii 255), (ii 103)] t
  refine yC X23.here hx rfl 20 26 rfl (hb hby d0_20) rfl rfl ?_
  show S_ p e below T23 m 26 #[vr s_, vi 4, vr d_, vi 4, vi 7, vi 4, vi 103] [] t
  refine XS.aloadN X23.here hx rfl (hb hby d0_26) rfl rfl ?_
  show S_ p e below T23 m 27 #[vr s_, vi 4, vr d_, vi 4, vi 7, vi 4, vi 103] [(rr d_)] t
  refine XS.iloadN X23.here hx rfl (hb hby d0_27) rfl ?_
  show S_ p e below T23 m 28 #[vr s_, vi 4, vr d_, vi 4, vi 7, vi 4, vi 103] [(ii 4), (rr d_)] t
  refine XS.iload X23.here hx rfl (hb hby d0_28) rfl ?_
  show S_ p e below T23 m 30 #[vr s_, vi 4, vr d_, vi 4, vi 7, vi 4, vi 103] [(ii 103), (ii 4), (rr d_)] t
  refine XS.i2b X23.here hx rfl (hb hby d0_30) rfl ?_
  exact k
 obtain ⟨T30, h30, X30, e30, W30, f33, o31, N32, c30⟩ := kstB X23 hx hZ e23 f27 (j := (4 : Int32)) (by decide) (by decide) 4 rfl (Nat.le_of_ble_eq_true rfl) c29 rfl rfl (hb hby d0_31) o24 N25 G2_
 have f34 : Arv Z h30 d_ kd_ .byte (7 : Int32) [(ii 99), (ii 104), (ii 97), (ii 110), (ii 103), (ii 0), (ii 0)] (ii 0) := f33
 have kp35 := kp28.wr W30 (Or.inl (List.mem_of_getElem? (i := 0) rfl))
 have c36 : Kt p e below T30 st0 (mkF m 31 #[vr s_, vi 5, vr d_, vi 5, vi 7, vi 5, vi 101] [(ii 101), (ii 5), (rr d_)]) := fun t k => by
  refine c30 t ?_
  show S_ p e below T30 m 32 #[vr s_, vi 4, vr d_, vi 4, vi 7, vi 4, vi 103] [] t
  refine XS.iinc X30.here hx rfl (hb hby d0_32) rfl (l' := #[vr s_, vi 5, vr d_, vi 4, vi 7, vi 4, vi 103]) rfl ?_
  show S_ p e below T30 m 35 #[vr s_, vi 5, vr d_, vi 4, vi 7, vi 4, vi 103] [] t
  refine XS.iinc X30.here hx rfl (hb hby d0_35) rfl (l' := #[vr s_, vi 5, vr d_, vi 5, vi 7, vi 4, vi 103]) rfl ?_
  show S_ p e below T30 m 38 #[vr s_, vi 5, vr d_, vi 5, vi 7, vi 4, vi 103] [] t
  refine XS.iinc X30.here hx rfl (hb hby d0_38) rfl (l' := #[vr s_, vi 5, vr d_, vi 5, vi 7, vi 5, vi 103]) rfl ?_
  show S_ p e below T30 m 41 #[vr s_, vi 5, vr d_, vi 5, vi 7, vi 5, vi 103] [] t
  refine yG X30.here hx rfl 41 3 rfl (hb hby d0_41) ?_
  show S_ p e below T30 m 3 #[vr s_, vi 5, vr d_, vi 5, vi 7, vi 5, vi 103] [] t
  refine XS.iload X30.here hx rfl (hb hby d0_3) rfl ?_
  show S_ p e below T30 m 5 #[vr s_, vi 5, vr d_, vi 5, vi 7, vi 5, vi 103] [(ii 5)] t
  refine XS.iload X30.here hx rfl (hb hby d0_5) rfl ?_
  show S_ p e below T30 m 7 #[vr s_, vi 5, vr d_, vi 5, vi 7, vi 5, vi 103] [(ii 7), (ii 5)] t
  refine XS.icmpNo X30.here hx rfl (hb hby d0_7) rfl rfl ?_
  show S_ p e below T30 m 10 #[vr s_, vi 5, vr d_, vi 5, vi 7, vi 5, vi 103] [] t
  refine XS.aloadN X30.here hx rfl (hb hby d0_10) rfl rfl ?_
  show S_ p e below T30 m 11 #[vr s_, vi 5, vr d_, vi 5, vi 7, vi 5, vi 103] [(rr s_)] t
  refine XS.iloadN X30.here hx rfl (hb hby d0_11) rfl ?_
  show S_ p e below T30 m 12 #[vr s_, vi 5, vr d_, vi 5, vi 7, vi 5, vi 103] [(ii 5), (rr s_)] t
  refine ldC X30 hx hZ e30 (((((A0_.other W2 NE3_).other W9 NE3_).other W16 NE3_).other W23 NE3_).other W30 NE3_) (v := (ii 101)) (by decide) (by decide) rfl rfl rfl (hb hby d0_12) ?_
  show S_ p e below T30 m 13 #[vr s_, vi 5, vr d_, vi 5, vi 7, vi 5, vi 103] [(ii 101)] t
  refine XS.istore X30.here hx rfl (hb hby d0_13) rfl (l' := #[vr s_, vi 5, vr d_, vi 5, vi 7, vi 5, vi 101]) rfl ?_
  show S_ p e below T30 m 15 #[vr s_, vi 5, vr d_, vi 5, vi 7, vi 5, vi 101] [] t
  refine XS.iload X30.here hx rfl (hb hby d0_15) rfl ?_
  show S_ p e below T30 m 17 #[vr s_, vi 5, vr d_, vi 5, vi 7, vi 5, vi 101] [(ii 101)] t
  refine XS.sipush X30.here hx rfl (hb hby d0_17) ?_
  show S_ p e below T30 m 20 #[vr s_, vi 5, vr d_, vi 5, vi 7, vi 5, vi 101] [(ii 255), (ii 101)] t
  refine yC X30.here hx rfl 20 26 rfl (hb hby d0_20) rfl rfl ?_
  show S_ p e below T30 m 26 #[vr s_, vi 5, vr d_, vi 5, vi 7, vi 5, vi 101] [] t
  refine XS.aloadN X30.here hx rfl (hb hby d0_26) rfl rfl ?_
  show S_ p e below T30 m 27 #[vr s_, vi 5, vr d_, vi 5, vi 7, vi 5, vi 101] [(rr d_)] t
  refine XS.iloadN X30.here hx rfl (hb hby d0_27) rfl ?_
  show S_ p e below T30 m 28 #[vr s_, vi 5, vr d_, vi 5, vi 7, vi 5, vi 101] [(ii 5), (rr d_)] t
  refine XS.iload X30.here hx rfl (hb hby d0_28) rfl ?_
  show S_ p e below T30 m 30 #[vr s_, vi 5, vr d_, vi 5, vi 7, vi 5, vi 101] [(ii 101), (ii 5), (rr d_)] t
  refine XS.i2b X30.here hx rfl (hb hby d0_30) rfl ?_
  exact k
 obtain ⟨T37, h37, X37, e37, W37, f40, o38, N39, c37⟩ := kstB X30 hx hZ e30 f34 (j := (5 : Int32)) (by decide) (by decide) 5 rfl (Nat.le_of_ble_eq_true rfl) c36 rfl rfl (hb hby d0_31) o31 N32 G2_
 have f41 : Arv Z h37 d_ kd_ .byte (7 : Int32) [(ii 99), (ii 104), (ii 97), (ii 110), (ii 103), (ii 101), (ii 0)] (ii 0) := f40
 have kp42 := kp35.wr W37 (Or.inl (List.mem_of_getElem? (i := 0) rfl))
 have c43 : Kt p e below T37 st0 (mkF m 31 #[vr s_, vi 6, vr d_, vi 6, vi 7, vi 6, vi 100] [(ii 100), (ii 6), (rr d_)]) := fun t k => by
  refine c37 t ?_
  show S_ p e below T37 m 32 #[vr s_, vi 5, vr d_, vi 5, vi 7, vi 5, vi 101] [] t
  refine XS.iinc X37.here hx rfl (hb hby d0_32) rfl (l' := #[vr s_, vi 6, vr d_, vi 5, vi 7, vi 5, vi 101]) rfl ?_
  show S_ p e below T37 m 35 #[vr s_, vi 6, vr d_, vi 5, vi 7, vi 5, vi 101] [] t
  refine XS.iinc X37.here hx rfl (hb hby d0_35) rfl (l' := #[vr s_, vi 6, vr d_, vi 6, vi 7, vi 5, vi 101]) rfl ?_
  show S_ p e below T37 m 38 #[vr s_, vi 6, vr d_, vi 6, vi 7, vi 5, vi 101] [] t
  refine XS.iinc X37.here hx rfl (hb hby d0_38) rfl (l' := #[vr s_, vi 6, vr d_, vi 6, vi 7, vi 6, vi 101]) rfl ?_
  show S_ p e below T37 m 41 #[vr s_, vi 6, vr d_, vi 6, vi 7, vi 6, vi 101] [] t
  refine yG X37.here hx rfl 41 3 rfl (hb hby d0_41) ?_
  show S_ p e below T37 m 3 #[vr s_, vi 6, vr d_, vi 6, vi 7, vi 6, vi 101] [] t
  refine XS.iload X37.here hx rfl (hb hby d0_3) rfl ?_
  show S_ p e below T37 m 5 #[vr s_, vi 6, vr d_, vi 6, vi 7, vi 6, vi 101] [(ii 6)] t
  refine XS.iload X37.here hx rfl (hb hby d0_5) rfl ?_
  show S_ p e below T37 m 7 #[vr s_, vi 6, vr d_, vi 6, vi 7, vi 6, vi 101] [(ii 7), (ii 6)] t
  refine XS.icmpNo X37.here hx rfl (hb hby d0_7) rfl rfl ?_
  show S_ p e below T37 m 10 #[vr s_, vi 6, vr d_, vi 6, vi 7, vi 6, vi 101] [] t
  refine XS.aloadN X37.here hx rfl (hb hby d0_10) rfl rfl ?_
  show S_ p e below T37 m 11 #[vr s_, vi 6, vr d_, vi 6, vi 7, vi 6, vi 101] [(rr s_)] t
  refine XS.iloadN X37.here hx rfl (hb hby d0_11) rfl ?_
  show S_ p e below T37 m 12 #[vr s_, vi 6, vr d_, vi 6, vi 7, vi 6, vi 101] [(ii 6), (rr s_)] t
  refine ldC X37 hx hZ e37 ((((((A0_.other W2 NE3_).other W9 NE3_).other W16 NE3_).other W23 NE3_).other W30 NE3_).other W37 NE3_) (v := (ii 100)) (by decide) (by decide) rfl rfl rfl (hb hby d0_12) ?_
  show S_ p e below T37 m 13 #[vr s_, vi 6, vr d_, vi 6, vi 7, vi 6, vi 101] [(ii 100)] t
  refine XS.istore X37.here hx rfl (hb hby d0_13) rfl (l' := #[vr s_, vi 6, vr d_, vi 6, vi 7, vi 6, vi 100]) rfl ?_
  show S_ p e below T37 m 15 #[vr s_, vi 6, vr d_, vi 6, vi 7, vi 6, vi 100] [] t
  refine XS.iload X37.here hx rfl (hb hby d0_15) rfl ?_
  show S_ p e below T37 m 17 #[vr s_, vi 6, vr d_, vi 6, vi 7, vi 6, vi 100] [(ii 100)] t
  refine XS.sipush X37.here hx rfl (hb hby d0_17) ?_
  show S_ p e below T37 m 20 #[vr s_, vi 6, vr d_, vi 6, vi 7, vi 6, vi 100] [(ii 255), (ii 100)] t
  refine yC X37.here hx rfl 20 26 rfl (hb hby d0_20) rfl rfl ?_
  show S_ p e below T37 m 26 #[vr s_, vi 6, vr d_, vi 6, vi 7, vi 6, vi 100] [] t
  refine XS.aloadN X37.here hx rfl (hb hby d0_26) rfl rfl ?_
  show S_ p e below T37 m 27 #[vr s_, vi 6, vr d_, vi 6, vi 7, vi 6, vi 100] [(rr d_)] t
  refine XS.iloadN X37.here hx rfl (hb hby d0_27) rfl ?_
  show S_ p e below T37 m 28 #[vr s_, vi 6, vr d_, vi 6, vi 7, vi 6, vi 100] [(ii 6), (rr d_)] t
  refine XS.iload X37.here hx rfl (hb hby d0_28) rfl ?_
  show S_ p e below T37 m 30 #[vr s_, vi 6, vr d_, vi 6, vi 7, vi 6, vi 100] [(ii 100), (ii 6), (rr d_)] t
  refine XS.i2b X37.here hx rfl (hb hby d0_30) rfl ?_
  exact k
 obtain ⟨T44, h44, X44, e44, W44, f47, o45, N46, c44⟩ := kstB X37 hx hZ e37 f41 (j := (6 : Int32)) (by decide) (by decide) 6 rfl (Nat.le_of_ble_eq_true rfl) c43 rfl rfl (hb hby d0_31) o38 N39 G2_
 have f48 : Arv Z h44 d_ kd_ .byte (7 : Int32) [(ii 99), (ii 104), (ii 97), (ii 110), (ii 103), (ii 101), (ii 100)] (ii 0) := f47
 have kp49 := kp42.wr W44 (Or.inl (List.mem_of_getElem? (i := 0) rfl))
 obtain ⟨fs, hr, hrun, hended, hW, hsame⟩ := X44.leave (v := some (ii 7)) (fun h => by rw [Bd.returns] at h; cases h)
 refine ⟨_, _, c44 _ ?_, hrun, hended, _, _, rfl, ?_, ⟨_, rfl⟩, hW, hsame.mono (by decide) (by decide)⟩
 ·show S_ p e below T44 m 32 #[vr s_, vi 6, vr d_, vi 6, vi 7, vi 6, vi 100] [] _
  refine XS.iinc X44.here hx rfl (hb hby d0_32) rfl (l' := #[vr s_, vi 7, vr d_, vi 6, vi 7, vi 6, vi 100]) rfl ?_
  show S_ p e below T44 m 35 #[vr s_, vi 7, vr d_, vi 6, vi 7, vi 6, vi 100] [] _
  refine XS.iinc X44.here hx rfl (hb hby d0_35) rfl (l' := #[vr s_, vi 7, vr d_, vi 7, vi 7, vi 6, vi 100]) rfl ?_
  show S_ p e below T44 m 38 #[vr s_, vi 7, vr d_, vi 7, vi 7, vi 6, vi 100] [] _
  refine XS.iinc X44.here hx rfl (hb hby d0_38) rfl (l' := #[vr s_, vi 7, vr d_, vi 7, vi 7, vi 7, vi 100]) rfl ?_
  show S_ p e below T44 m 41 #[vr s_, vi 7, vr d_, vi 7, vi 7, vi 7, vi 100] [] _
  refine yG X44.here hx rfl 41 3 rfl (hb hby d0_41) ?_
  show S_ p e below T44 m 3 #[vr s_, vi 7, vr d_, vi 7, vi 7, vi 7, vi 100] [] _
  refine XS.iload X44.here hx rfl (hb hby d0_3) rfl ?_
  show S_ p e below T44 m 5 #[vr s_, vi 7, vr d_, vi 7, vi 7, vi 7, vi 100] [(ii 7)] _
  refine XS.iload X44.here hx rfl (hb hby d0_5) rfl ?_
  show S_ p e below T44 m 7 #[vr s_, vi 7, vr d_, vi 7, vi 7, vi 7, vi 100] [(ii 7), (ii 7)] _
  refine yC X44.here hx rfl 7 44 rfl (hb hby d0_7) rfl rfl ?_
  show S_ p e below T44 m 44 #[vr s_, vi 7, vr d_, vi 7, vi 7, vi 7, vi 100] [] _
  refine XS.iload X44.here hx rfl (hb hby d0_44) rfl ?_
  show S_ p e below T44 m 46 #[vr s_, vi 7, vr d_, vi 7, vi 7, vi 7, vi 100] [(ii 7)] _
  exact retOut X44 hx Bd.returns rfl (Or.inl ⟨rfl, Or.inl rfl, _, rfl⟩) (hb hby d0_46) hr
 ·show Q_cmp5_changed Z s_ ks_ d_ kd_ h0 n0 _ T44.heap _
  rw [e44]
  exact ⟨rfl, N46, kp49, f48⟩
theorem ef_cmp3_changed (m : MethodId) (s_ : Addr) : entryFrame m #[(rr s_), (ii 0), (ii 7)] 6 = mkF m 0 #[vr s_, vi 0, vi 7, u_, u_, u_] [] := by first | (simp [entryFrame, mkF, argsToLocals, Value.category]; done) | rfl
def Q_cmp3_changed (Z : State) (s_ : Addr) (ks_ : ClassId) (h0 : Heap) (n0 : Nat) (v : Option Value) (h : Heap) (L : List Loc) : Prop := ∃ (b_ : Addr), ∃ (kb_ : ClassId), v = some (rr b_) ∧ Fr n0 L ∧ Keep h0 h [] ∧ Arv Z h b_ kb_ .byte (7 : Int32) [(ii 99), (ii 104), (ii 97), (ii 110), (ii 103), (ii 101), (ii 100)] (ii 0) ∧ n0 ≤ b_ ∧ h0.size ≤ b_
set_option maxRecDepth 65536 in
set_option maxHeartbeats 40000000 in
theorem rm_cmp3_changed (l : Launch) (Z : State) (a0 : Array Value) (hw : HW Z a0) (ws : List Jvm.Cond) (s_ : Addr) (ks_ : ClassId) (h0 : Heap) (n0 : Nat) (O0 : Old Z n0 h0) (A0_ : Arv Z h0 s_ ks_ .char (7 : Int32) [(ii 99), (ii 104), (ii 97), (ii 110), (ii 103), (ii 101), (ii 100)] (ii 0)) :
  MFP l Z (⟨nm4, "compress", "([CII)[B"⟩ : MethodName) jdk_52_method_16_code 6 (some (.array .byte)) ({ frames := 1, cells := 1, slots := 7, locals := 18 } : Room) ws #[(rr s_), (ii 0), (ii 7)] h0 (Q_cmp3_changed Z s_ ks_ h0 n0) := by
 refine MetFree.of_bodySF (plainFor_of_name pn_java_lang_StringUTF16) hisR ?_
 intro p e s m args below meth c s₁ Bd hml0 hP hK
 obtain ⟨rfl, hZ, hh⟩ := hP
 have hx := Bd.exec
 have hby := Bd.bytes
 have hml : c.maxLocals = 6 := hml0
 have hown : s.vm.findClass nm4 = some m.cls := findClass_of_methodNamed Bd.named
 have hnm := (name_of_methodNamed Bd.named Bd.method).1
 have X0 : Stand p l e ({ frames := 1, cells := 1, slots := 7, locals := 18 } : Room) s m #[(rr s_), (ii 0), (ii 7)] below meth c s₁ [] 0 0 := Stand.of_body Bd
 have e0 : s₁.heap = h0 := by rw [← hh, Bd.state]; rfl
 have N0 := Fr.nil n0
 have kp0 : Keep h0 h0 [] := Keep.refl _ _
 have c0 : ∀ t, S_ p e below s₁ m 0 #[vr s_, vi 0, vi 7, u_, u_, u_] [] t → Steps p.tables e below (s₁.setTop (entryFrame m #[(rr s_), (ii 0), (ii 7)] 6)) t := fun t k => castTop (ef_cmp3_changed m s_) k
 generalize s₁.setTop (entryFrame m #[(rr s_), (ii 0), (ii 7)] 6) = st0 at c0 ⊢
 replace c0 : Kt p e below s₁ st0 (mkF m 0 #[vr s_, vi 0, vi 7, u_, u_, u_] []) := c0
 have c1 : Kt p e below s₁ st0 (mkF m 1 #[vr s_, vi 0, vi 7, u_, u_, u_] [(ii 7)]) := fun t k => by
  refine c0 t ?_
  show S_ p e below s₁ m 0 #[vr s_, vi 0, vi 7, u_, u_, u_] [] t
  refine XS.iloadN X0.here hx rfl (hb hby d1_0) rfl ?_
  exact k
 obtain ⟨b2, T2, h2, k2, z2, g2, X2, e2, E2, o3, A2, c2⟩ := knewP (aty := .byte) X0 hx hZ (w22 hw) e0 c1 rfl (hb hby d1_1) rfl (by decide) 7 (by decide) (by decide) (by decide) (by decide) O0
 have kp5 := kp0.ext E2
 have z6 := Nat.le_trans kp0.1 z2
 have f4 : Arv Z h2 b2 k2 .byte (7 : Int32) [(ii 0), (ii 0), (ii 0), (ii 0), (ii 0), (ii 0), (ii 0)] (ii 0) := A2.pad (pad_rep [] (ii 0) 7)
 have q7 := Nat.ne_of_lt (Nat.lt_of_lt_of_le A0_.lt z2)
 have c8 : Kt p e below T2 st0 (mkF m 9 #[vr s_, vi 0, vi 7, vr b2, u_, u_] [(ii 7), (ii 0), (rr b2), (ii 0), (rr s_)]) := fun t k => by
  refine c2 t ?_
  show S_ p e below T2 m 3 #[vr s_, vi 0, vi 7, u_, u_, u_] [(rr b2)] t
  refine XS.astoreN X2.here hx rfl (hb hby d1_3) rfl rfl (l' := #[vr s_, vi 0, vi 7, vr b2, u_, u_]) rfl ?_
  show S_ p e below T2 m 4 #[vr s_, vi 0, vi 7, vr b2, u_, u_] [] t
  refine XS.aloadN X2.here hx rfl (hb hby d1_4) rfl rfl ?_
  show S_ p e below T2 m 5 #[vr s_, vi 0, vi 7, vr b2, u_, u_] [(rr s_)] t
  refine XS.iloadN X2.here hx rfl (hb hby d1_5) rfl ?_
  show S_ p e below T2 m 6 #[vr s_, vi 0, vi 7, vr b2, u_, u_] [(ii 0), (rr s_)] t
  refine XS.aloadN X2.here hx rfl (hb hby d1_6) rfl rfl ?_
  show S_ p e below T2 m 7 #[vr s_, vi 0, vi 7, vr b2, u_, u_] [(rr b2), (ii 0), (rr s_)] t
  refine XS.iconst X2.here hx rfl (hb hby d1_7) ?_
  show S_ p e below T2 m 8 #[vr s_, vi 0, vi 7, vr b2, u_, u_] [(ii 0), (rr b2), (ii 0), (rr s_)] t
  refine XS.iloadN X2.here hx rfl (hb hby d1_8) rfl ?_
  exact k
 obtain ⟨_, T9, L9, X9, hQ9, c9⟩ := kstat X2 hx hZ hown (w23 hw) (w24 hw) (w20 hw) (w25 hw) (rm_cmp5_changed l Z a0 hw [] s_ ks_ b2 k2 h2 n0 o3 (A0_.ext E2) f4 g2 q7) e2 c8 hml pd_pACIABIIrI [(rr s_), (ii 0), (rr b2), (ii 0), (ii 7)] [] 0 (hb hby d1_9) rfl rfl rfl rfl rfl rfl
 obtain ⟨rfl, N10q, K11, p12⟩ := hQ9
 have N10 := Fr.app N0 N10q
 have o13 := o3.keep K11 (allS g2 all0)
 have kp14 := kp5.trans K11 (allS (Or.inr z6) all0)
 obtain ⟨fs, hr, hrun, hended, hW, hsame⟩ := X9.leave (v := some (rr b2)) (fun h => by rw [Bd.returns] at h; cases h)
 refine ⟨_, _, c9 _ ?_, hrun, hended, _, _, rfl, ?_, ⟨_, rfl⟩, hW, hsame.mono (by decide) (by decide)⟩
 ·show S_ p e below T9 m 12 #[vr s_, vi 0, vi 7, vr b2, u_, u_] [(ii 7)] _
  refine XS.istore X9.here hx rfl (hb hby d1_12) rfl (l' := #[vr s_, vi 0, vi 7, vr b2, vi 7, u_]) rfl ?_
  show S_ p e below T9 m 14 #[vr s_, vi 0, vi 7, vr b2, vi 7, u_] [] _
  refine XS.iload X9.here hx rfl (hb hby d1_14) rfl ?_
  show S_ p e below T9 m 16 #[vr s_, vi 0, vi 7, vr b2, vi 7, u_] [(ii 7)] _
  refine XS.iloadN X9.here hx rfl (hb hby d1_16) rfl ?_
  show S_ p e below T9 m 17 #[vr s_, vi 0, vi 7, vr b2, vi 7, u_] [(ii 7), (ii 7)] _
  refine yC X9.here hx rfl 17 57 rfl (hb hby d1_17) rfl rfl ?_
  show S_ p e below T9 m 57 #[vr s_, vi 0, vi 7, vr b2, vi 7, u_] [] _
  refine XS.aloadN X9.here hx rfl (hb hby d1_57) rfl rfl ?_
  show S_ p e below T9 m 58 #[vr s_, vi 0, vi 7, vr b2, vi 7, u_] [(rr b2)] _
  exact retOut X9 hx Bd.returns rfl (Or.inr (Or.inr (Or.inr (Or.inr ⟨rfl, rfl, rfl⟩)))) (hb hby d1_58) hr
 ·show Q_cmp3_changed Z s_ ks_ h0 n0 _ T9.heap _
  exact ⟨b2, k2, rfl, N10, kp14, p12, g2, z6⟩
theorem ef_codl_7 (m : MethodId) (s_ : Addr) : entryFrame m #[(rr s_), (ii 7)] 2 = mkF m 0 #[vr s_, vi 7] [] := by first | (simp [entryFrame, mkF, argsToLocals, Value.category]; done) | rfl
def Q_codl_7 (Z : State) (s_ : Addr) (ks_ : ClassId) (vs_ : List Value) (h0 : Heap) (n0 : Nat) (v : Option Value) (h : Heap) (L : List Loc) : Prop := v = some (ii 0) ∧ Fr n0 L ∧ h = h0
set_option maxRecDepth 65536 in
set_option maxHeartbeats 40000000 in
theorem rm_codl_7 (l : Launch) (Z : State) (a0 : Array Value) (hw : HW Z a0) (ws : List Jvm.Cond) (s_ : Addr) (ks_ : ClassId) (vs_ : List Value) (h0 : Heap) (n0 : Nat) (O0 : Old Z n0 h0) (A0_ : Arv Z h0 s_ ks_ .byte (7 : Int32) vs_ (ii 0)) :
  MFP l Z (⟨nm4, "coderFromArrayLen", "([BI)B"⟩ : MethodName) jdk_52_method_15_code 2 (some .byte) ({ frames := 0, cells := 0, slots := 0, locals := 0 } : Room) ws #[(rr s_), (ii 7)] h0 (Q_codl_7 Z s_ ks_ vs_ h0 n0) := by
 refine MetFree.of_bodySF (plainFor_of_name pn_java_lang_StringUTF16) hisR ?_
 intro p e s m args below meth c s₁ Bd hml0 hP hK
 obtain ⟨rfl, hZ, hh⟩ := hP
 have hx := Bd.exec
 have hby := Bd.bytes
 have hml : c.maxLocals = 2 := hml0
 have hown : s.vm.findClass nm4 = some m.cls := findClass_of_methodNamed Bd.named
 have hnm := (name_of_methodNamed Bd.named Bd.method).1
 have X0 : Stand p l e ({ frames := 0, cells := 0, slots := 0, locals := 0 } : Room) s m #[(rr s_), (ii 7)] below meth c s₁ [] 0 0 := Stand.of_body Bd
 have e0 : s₁.heap = h0 := by rw [← hh, Bd.state]; rfl
 have N0 := Fr.nil n0
 have kp0 : Keep h0 h0 [] := Keep.refl _ _
 have c0 : ∀ t, S_ p e below s₁ m 0 #[vr s_, vi 7] [] t → Steps p.tables e below (s₁.setTop (entryFrame m #[(rr s_), (ii 7)] 2)) t := fun t k => castTop (ef_codl_7 m s_) k
 generalize s₁.setTop (entryFrame m #[(rr s_), (ii 7)] 2) = st0 at c0 ⊢
 replace c0 : Kt p e below s₁ st0 (mkF m 0 #[vr s_, vi 7] []) := c0
 obtain ⟨fs, hr, hrun, hended, hW, hsame⟩ := X0.leave (v := some (ii 0)) (fun h => by rw [Bd.returns] at h; cases h)
 refine ⟨_, _, c0 _ ?_, hrun, hended, _, _, rfl, ?_, ⟨_, rfl⟩, hW, hsame.mono (by decide) (by decide)⟩
 ·show S_ p e below s₁ m 0 #[vr s_, vi 7] [] _
  refine XS.iloadN X0.here hx rfl (hb hby d2_0) rfl ?_
  show S_ p e below s₁ m 1 #[vr s_, vi 7] [(ii 7)] _
  refine XS.aloadN X0.here hx rfl (hb hby d2_1) rfl rfl ?_
  show S_ p e below s₁ m 2 #[vr s_, vi 7] [(rr s_), (ii 7)] _
  refine ldLen X0 hx hZ e0 A0_ rfl rfl (hb hby d2_2) ?_
  show S_ p e below s₁ m 3 #[vr s_, vi 7] [(ii 7), (ii 7)] _
  refine XS.isub X0.here hx rfl (hb hby d2_3) rfl ?_
  show S_ p e below s₁ m 4 #[vr s_, vi 7] [(ii 0)] _
  refine XS.bipush X0.here hx rfl (hb hby d2_4) ?_
  show S_ p e below s₁ m 6 #[vr s_, vi 7] [(ii 31), (ii 0)] _
  refine XS.iushr X0.here hx rfl (hb hby d2_6) rfl ?_
  show S_ p e below s₁ m 7 #[vr s_, vi 7] [(ii 0)] _
  refine XS.i2b X0.here hx rfl (hb hby d2_7) rfl ?_
  show S_ p e below s₁ m 8 #[vr s_, vi 7] [(ii 0)] _
  exact retN X0 hx (t := .byte) Bd.returns (by simp) (hb hby d2_8) hr
 ·show Q_codl_7 Z s_ ks_ vs_ h0 n0 _ s₁.heap _
  rw [e0]
  exact ⟨rfl, N0, rfl⟩
theorem ef_str4_changed (m : MethodId) (x_ : Addr) (s_ : Addr) : entryFrame m #[(rr x_), (rr s_), (ii 0), (ii 7), .null] 6 = mkF m 0 #[vr x_, vr s_, vi 0, vi 7, .val .null, u_] [] := by first | (simp [entryFrame, mkF, argsToLocals, Value.category]; done) | rfl
def Q_str4_changed (Z : State) (x_ : Addr) (s_ : Addr) (ks_ : ClassId) (z_ : Int32) (h0 : Heap) (n0 : Nat) (v : Option Value) (h : Heap) (L : List Loc) : Prop := v = none ∧ Fr n0 L ∧ Keep h0 h [x_] ∧ Exa Z h x_ nm1 ∧ Fld Z h x_ nm1 "coder" "B" (ii 0) ∧ ∃ (b_ : Addr), ∃ (kb_ : ClassId), Fld Z h x_ nm1 "value" "[B" (rr b_) ∧ Arv Z h b_ kb_ .byte (7 : Int32) [(ii 99), (ii 104), (ii 97), (ii 110), (ii 103), (ii 101), (ii 100)] (ii 0) ∧ n0 ≤ b_ ∧ h0.size ≤ b_
set_option maxRecDepth 65536 in
set_option maxHeartbeats 40000000 in
theorem rm_str4_changed (l : Launch) (Z : State) (a0 : Array Value) (hw : HW Z a0) (ws : List Jvm.Cond) (x_ : Addr) (s_ : Addr) (ks_ : ClassId) (z_ : Int32) (h0 : Heap) (n0 : Nat) (O0 : Old Z n0 h0) (E0_ : Exa Z h0 x_ nm1) (F1_ : Fld Z h0 x_ nm1 "value" "[B" .null) (F2_ : Fld Z h0 x_ nm1 "coder" "B" (ii 0)) (G3_ : n0 ≤ x_) (A4_ : Arv Z h0 s_ ks_ .char (7 : Int32) [(ii 99), (ii 104), (ii 97), (ii 110), (ii 103), (ii 101), (ii 100)] (ii 0)) (ZS5_ : Sta Z Z.heap nm1 "COMPACT_STRINGS" "Z" (.int z_)) (hz_ : ¬ (z_ = (0 : Int32))) :
  MFP l Z (⟨nm1, "<init>", "([CIILjava/lang/Void;)V"⟩ : MethodName) jdk_42_method_149_code 6 none ({ frames := 2, cells := 1, slots := 7, locals := 35 } : Room) ws #[(rr x_), (rr s_), (ii 0), (ii 7), .null] h0 (Q_str4_changed Z x_ s_ ks_ z_ h0 n0) := by
 refine MetFree.of_bodySF (plainFor_of_name pn_java_lang_String) hisR ?_
 intro p e s m args below meth c s₁ Bd hml0 hP hK
 obtain ⟨rfl, hZ, hh⟩ := hP
 have hx := Bd.exec
 have hby := Bd.bytes
 have hml : c.maxLocals = 6 := hml0
 have hown : s.vm.findClass nm1 = some m.cls := findClass_of_methodNamed Bd.named
 have hnm := (name_of_methodNamed Bd.named Bd.method).1
 have X0 : Stand p l e ({ frames := 2, cells := 1, slots := 7, locals := 35 } : Room) s m #[(rr x_), (rr s_), (ii 0), (ii 7), .null] below meth c s₁ [] 0 0 := Stand.of_body Bd
 have e0 : s₁.heap = h0 := by rw [← hh, Bd.state]; rfl
 have N0 := Fr.nil n0
 have kp0 : Keep h0 h0 [x_] := Keep.refl _ _
 have c0 : ∀ t, S_ p e below s₁ m 0 #[vr x_, vr s_, vi 0, vi 7, .val .null, u_] [] t → Steps p.tables e below (s₁.setTop (entryFrame m #[(rr x_), (rr s_), (ii 0), (ii 7), .null] 6)) t := fun t k => castTop (ef_str4_changed m x_ s_) k
 generalize s₁.setTop (entryFrame m #[(rr x_), (rr s_), (ii 0), (ii 7), .null] 6) = st0 at c0 ⊢
 replace c0 : Kt p e below s₁ st0 (mkF m 0 #[vr x_, vr s_, vi 0, vi 7, .val .null, u_] []) := c0
 have c1 : Kt p e below s₁ st0 (mkF m 1 #[vr x_, vr s_, vi 0, vi 7, .val .null, u_] [(rr x_)]) := fun t k => by
  refine c0 t ?_
  show S_ p e below s₁ m 0 #[vr x_, vr s_, vi 0, vi 7, .val .null, u_] [] t
  refine XS.aloadN X0.here hx rfl (hb hby d3_0) rfl rfl ?_
  exact k
 obtain ⟨T2, X2, e2, c2⟩ := kinit X0 hx hZ hown (w14 hw) (w15 hw) (w16 hw) e0 c1 rfl hml rfl rfl (hb hby d3_1) 0 (own_w rfl) (by decide) (by decide)
 have c3 : Kt p e below T2 st0 (mkF m 27 #[vr x_, vr s_, vi 0, vi 7, .val .null, u_] []) := fun t k => by
  refine c2 t ?_
  show S_ p e below T2 m 4 #[vr x_, vr s_, vi 0, vi 7, .val .null, u_] [] t
  refine XS.iloadN X2.here hx rfl (hb hby d3_4) rfl ?_
  show S_ p e below T2 m 5 #[vr x_, vr s_, vi 0, vi 7, .val .null, u_] [(ii 7)] t
  refine yI X2.here hx rfl 5 27 rfl (hb hby d3_5) rfl rfl ?_
  exact k
 obtain ⟨T4, X4, e4, c4⟩ := kgetS X2 hx hZ hown (host := "") (Or.inl (w17 hw)) Via.refl e2 (ZS5_.ext O0.2) c3 rfl (hb hby d3_27)
 have c5 : Kt p e below T4 st0 (mkF m 36 #[vr x_, vr s_, vi 0, vi 7, .val .null, u_] [(ii 7), (ii 0), (rr s_)]) := fun t k => by
  refine c4 t ?_
  show S_ p e below T4 m 30 #[vr x_, vr s_, vi 0, vi 7, .val .null, u_] [(.int z_)] t
  refine XS.ifNo X4.here hx rfl (hb hby d3_30) rfl ((if0 _ _).trans (feq hz_).1) ?_
  show S_ p e below T4 m 33 #[vr x_, vr s_, vi 0, vi 7, .val .null, u_] [] t
  refine XS.aloadN X4.here hx rfl (hb hby d3_33) rfl rfl ?_
  show S_ p e below T4 m 34 #[vr x_, vr s_, vi 0, vi 7, .val .null, u_] [(rr s_)] t
  refine XS.iloadN X4.here hx rfl (hb hby d3_34) rfl ?_
  show S_ p e below T4 m 35 #[vr x_, vr s_, vi 0, vi 7, .val .null, u_] [(ii 0), (rr s_)] t
  refine XS.iloadN X4.here hx rfl (hb hby d3_35) rfl ?_
  exact k
 obtain ⟨_, T6, L6, X6, hQ6, c6⟩ := kstat X4 hx hZ hown (w18 hw) (w19 hw) (w20 hw) (w21 hw) (rm_cmp3_changed l Z a0 hw [] s_ ks_ h0 n0 O0 A4_) e4 c5 hml pd_pACIIrAB [(rr s_), (ii 0), (ii 7)] [] 0 (hb hby d3_36) rfl rfl rfl rfl rfl rfl
 obtain ⟨b7, k8, rfl, N9q, K10, p11, p12, p13⟩ := hQ6
 have N9 := Fr.app N0 N9q
 have o14 := O0.keep K10 all0
 have kp15 := kp0.trans K10 all0
 have z16 := Nat.le_trans kp0.1 p13
 have g17 := Nat.le_trans (Nat.le_trans (Nat.le_of_eq O0.1.symm) O0.2.1) p13
 have c18 : Kt p e below T6 st0 (mkF m 45 #[vr x_, vr s_, vi 0, vi 7, .val .null, vr b7] [(ii 7), (rr b7), (rr x_)]) := fun t k => by
  refine c6 t ?_
  show S_ p e below T6 m 39 #[vr x_, vr s_, vi 0, vi 7, .val .null, u_] [(rr b7)] t
  refine XS.astore X6.here hx rfl (hb hby d3_39) rfl rfl (l' := #[vr x_, vr s_, vi 0, vi 7, .val .null, vr b7]) rfl ?_
  show S_ p e below T6 m 41 #[vr x_, vr s_, vi 0, vi 7, .val .null, vr b7] [] t
  refine XS.aloadN X6.here hx rfl (hb hby d3_41) rfl rfl ?_
  show S_ p e below T6 m 42 #[vr x_, vr s_, vi 0, vi 7, .val .null, vr b7] [(rr x_)] t
  refine XS.aload X6.here hx rfl (hb hby d3_42) rfl rfl ?_
  show S_ p e below T6 m 44 #[vr x_, vr s_, vi 0, vi 7, .val .null, vr b7] [(rr b7), (rr x_)] t
  refine XS.iloadN X6.here hx rfl (hb hby d3_44) rfl ?_
  exact k
 obtain ⟨_, T19, L19, X19, hQ19, c19⟩ := kstat X6 hx hZ hown (w26 hw) (w27 hw) (w20 hw) (w28 hw) (rm_codl_7 l Z a0 hw [] b7 k8 [(ii 99), (ii 104), (ii 97), (ii 110), (ii 103), (ii 101), (ii 100)] T6.heap n0 o14 p11) rfl c18 hml pd_pABIrB [(rr b7), (ii 7)] [(rr x_)] 1 (hb hby d3_45) rfl rfl rfl rfl rfl rfl
 obtain ⟨rfl, N20q, K21⟩ := hQ19
 have N20 := Fr.app N9 N20q
 obtain ⟨T22, h22, X22, e22, W22, f23, o25, N24, c22⟩ := kput X19 hx hZ .byte hown (host := "") (Or.inl (w29 hw)) Via.refl K21 (F2_.keep K10 nin0) (E0_.keep K10) (Or.inr ⟨(w30 hw), rfl, hnm⟩) (w5 hw) c19 rfl rfl (hb hby d3_48) (by decide) rfl rfl o14 N20 G3_
 have kp26 := kp15.wr W22 (Or.inl (List.mem_of_getElem? (i := 0) rfl))
 have f27 := (F1_.keep K10 nin0).other W22 (Or.inr (slot_ne (Or.inr (w32 hw)) (Or.inr (w30 hw)) (by decide) (t := (.array .byte)) (t' := .byte) (by decide) (by decide)))
 have c28 : Kt p e below T22 st0 (mkF m 54 #[vr x_, vr s_, vi 0, vi 7, .val .null, vr b7] [(rr b7), (rr x_)]) := fun t k => by
  refine c22 t ?_
  show S_ p e below T22 m 51 #[vr x_, vr s_, vi 0, vi 7, .val .null, vr b7] [] t
  refine XS.aloadN X22.here hx rfl (hb hby d3_51) rfl rfl ?_
  show S_ p e below T22 m 52 #[vr x_, vr s_, vi 0, vi 7, .val .null, vr b7] [(rr x_)] t
  refine XS.aload X22.here hx rfl (hb hby d3_52) rfl rfl ?_
  exact k
 obtain ⟨T29, h29, X29, e29, W29, f30, o32, N31, c29⟩ := kput X22 hx hZ (.array .byte) hown (host := "") (Or.inl (w31 hw)) Via.refl e22 f27 ((E0_.keep K10).wr W22) (Or.inr ⟨(w32 hw), rfl, hnm⟩) (w5 hw) c28 rfl rfl (hb hby d3_54) (by decide) rfl rfl o25 N24 G3_
 have kp33 := kp26.wr W29 (Or.inl (List.mem_of_getElem? (i := 0) rfl))
 have f34 := f23.other W29 (Or.inr (slot_ne (Or.inr (w30 hw)) (Or.inr (w32 hw)) (by decide) (t := .byte) (t' := (.array .byte)) (by decide) (by decide)))
 have q35 := Ne.symm (Nat.ne_of_lt (Nat.lt_of_lt_of_le E0_.lt p13))
 obtain ⟨fs, hr, hrun, hended, hW, hsame⟩ := X29.leave (v := none) (fun _ => rfl)
 refine ⟨_, _, c29 _ ?_, hrun, hended, _, _, rfl, ?_, ⟨_, rfl⟩, hW, hsame.mono (by decide) (by decide)⟩
 ·show S_ p e below T29 m 57 #[vr x_, vr s_, vi 0, vi 7, .val .null, vr b7] [] _
  exact X29.returnOut hx Bd.returns (hb hby d3_57) hr
 ·show Q_str4_changed Z x_ s_ ks_ z_ h0 n0 _ T29.heap _
  rw [e29]
  exact ⟨rfl, N31, kp33, (((E0_.keep K10).wr W22).wr W29), f34, b7, k8, f30, ((p11.other W22 q35).other W29 q35), g17, z16⟩
theorem ef_str1_changed (m : MethodId) (x_ : Addr) (s_ : Addr) : entryFrame m #[(rr x_), (rr s_)] 2 = mkF m 0 #[vr x_, vr s_] [] := by first | (simp [entryFrame, mkF, argsToLocals, Value.category]; done) | rfl
def Q_str1_changed (Z : State) (x_ : Addr) (s_ : Addr) (ks_ : ClassId) (z_ : Int32) (h0 : Heap) (n0 : Nat) (v : Option Value) (h : Heap) (L : List Loc) : Prop := v = none ∧ Fr n0 L ∧ Keep h0 h [x_] ∧ Exa Z h x_ nm1 ∧ Fld Z h x_ nm1 "coder" "B" (ii 0) ∧ ∃ (b_ : Addr), ∃ (kb_ : ClassId), Fld Z h x_ nm1 "value" "[B" (rr b_) ∧ Arv Z h b_ kb_ .byte (7 : Int32) [(ii 99), (ii 104), (ii 97), (ii 110), (ii 103), (ii 101), (ii 100)] (ii 0) ∧ n0 ≤ b_ ∧ h0.size ≤ b_
set_option maxRecDepth 65536 in
set_option maxHeartbeats 40000000 in
theorem rm_str1_changed (l : Launch) (Z : State) (a0 : Array Value) (hw : HW Z a0) (ws : List Jvm.Cond) (x_ : Addr) (s_ : Addr) (ks_ : ClassId) (z_ : Int32) (h0 : Heap) (n0 : Nat) (O0 : Old Z n0 h0) (E0_ : Exa Z h0 x_ nm1) (F1_ : Fld Z h0 x_ nm1 "value" "[B" .null) (F2_ : Fld Z h0 x_ nm1 "coder" "B" (ii 0)) (G3_ : n0 ≤ x_) (A4_ : Arv Z h0 s_ ks_ .char (7 : Int32) [(ii 99), (ii 104), (ii 97), (ii 110), (ii 103), (ii 101), (ii 100)] (ii 0)) (ZS5_ : Sta Z Z.heap nm1 "COMPACT_STRINGS" "Z" (.int z_)) (hz_ : ¬ (z_ = (0 : Int32))) :
  MFP l Z (⟨nm1, "<init>", "([C)V"⟩ : MethodName) jdk_42_method_3_code 2 none ({ frames := 3, cells := 1, slots := 7, locals := 52 } : Room) ws #[(rr x_), (rr s_)] h0 (Q_str1_changed Z x_ s_ ks_ z_ h0 n0) := by
 refine MetFree.of_bodySF (plainFor_of_name pn_java_lang_String) hisR ?_
 intro p e s m args below meth c s₁ Bd hml0 hP hK
 obtain ⟨rfl, hZ, hh⟩ := hP
 have hx := Bd.exec
 have hby := Bd.bytes
 have hml : c.maxLocals = 2 := hml0
 have hown : s.vm.findClass nm1 = some m.cls := findClass_of_methodNamed Bd.named
 have hnm := (name_of_methodNamed Bd.named Bd.method).1
 have X0 : Stand p l e ({ frames := 3, cells := 1, slots := 7, locals := 52 } : Room) s m #[(rr x_), (rr s_)] below meth c s₁ [] 0 0 := Stand.of_body Bd
 have e0 : s₁.heap = h0 := by rw [← hh, Bd.state]; rfl
 have N0 := Fr.nil n0
 have kp0 : Keep h0 h0 [x_] := Keep.refl _ _
 have c0 : ∀ t, S_ p e below s₁ m 0 #[vr x_, vr s_] [] t → Steps p.tables e below (s₁.setTop (entryFrame m #[(rr x_), (rr s_)] 2)) t := fun t k => castTop (ef_str1_changed m x_ s_) k
 generalize s₁.setTop (entryFrame m #[(rr x_), (rr s_)] 2) = st0 at c0 ⊢
 replace c0 : Kt p e below s₁ st0 (mkF m 0 #[vr x_, vr s_] []) := c0
 have c1 : Kt p e below s₁ st0 (mkF m 6 #[vr x_, vr s_] [.null, (ii 7), (ii 0), (rr s_), (rr x_)]) := fun t k => by
  refine c0 t ?_
  show S_ p e below s₁ m 0 #[vr x_, vr s_] [] t
  refine XS.aloadN X0.here hx rfl (hb hby d4_0) rfl rfl ?_
  show S_ p e below s₁ m 1 #[vr x_, vr s_] [(rr x_)] t
  refine XS.aloadN X0.here hx rfl (hb hby d4_1) rfl rfl ?_
  show S_ p e below s₁ m 2 #[vr x_, vr s_] [(rr s_), (rr x_)] t
  refine XS.iconst X0.here hx rfl (hb hby d4_2) ?_
  show S_ p e below s₁ m 3 #[vr x_, vr s_] [(ii 0), (rr s_), (rr x_)] t
  refine XS.aloadN X0.here hx rfl (hb hby d4_3) rfl rfl ?_
  show S_ p e below s₁ m 4 #[vr x_, vr s_] [(rr s_), (ii 0), (rr s_), (rr x_)] t
  refine ldLen X0 hx hZ e0 A4_ rfl rfl (hb hby d4_4) ?_
  show S_ p e below s₁ m 5 #[vr x_, vr s_] [(ii 7), (ii 0), (rr s_), (rr x_)] t
  refine XS.aconstNull X0.here hx rfl (hb hby d4_5) ?_
  exact k
 obtain ⟨_, T2, L2, X2, hQ2, c2⟩ := kspec X0 hx hZ hown (w10 hw) (w11 hw) (w6 hw) (w13 hw) (rm_str4_changed l Z a0 hw [] x_ s_ ks_ z_ h0 n0 O0 E0_ F1_ F2_ G3_ A4_ ZS5_ hz_) e0 c1 hml pd_pACIILjava_lang_Void_rV x_ [(rr s_), (ii 0), (ii 7), .null] [] 0 (hb hby d4_6) rfl rfl rfl rfl rfl rfl
 obtain ⟨rfl, N3q, K4, p5, p6, b7, k8, p9, p10, p11, p12⟩ := hQ2
 have N3 := Fr.app N0 N3q
 have o13 := O0.keep K4 (allS G3_ all0)
 have kp14 := kp0.trans K4 (allS (Or.inl (List.mem_of_getElem? (i := 0) rfl)) all0)
 have z15 := Nat.le_trans kp0.1 p12
 have g16 := Nat.le_trans (Nat.le_trans (Nat.le_of_eq O0.1.symm) O0.2.1) p12
 obtain ⟨fs, hr, hrun, hended, hW, hsame⟩ := X2.leave (v := none) (fun _ => rfl)
 refine ⟨_, _, c2 _ ?_, hrun, hended, _, _, rfl, ?_, ⟨_, rfl⟩, hW, hsame.mono (by decide) (by decide)⟩
 ·show S_ p e below T2 m 9 #[vr x_, vr s_] [] _
  exact X2.returnOut hx Bd.returns (hb hby d4_9) hr
 ·show Q_str1_changed Z x_ s_ ks_ z_ h0 n0 _ T2.heap _
  exact ⟨rfl, N3, kp14, p5, p6, b7, k8, p9, p10, g16, z15⟩
theorem ef_cmp5_unchanged (m : MethodId) (s_ : Addr) (d_ : Addr) : entryFrame m #[(rr s_), (ii 0), (rr d_), (ii 0), (ii 9)] 7 = mkF m 0 #[vr s_, vi 0, vr d_, vi 0, vi 9, u_, u_] [] := by first | (simp [entryFrame, mkF, argsToLocals, Value.category]; done) | rfl
def Q_cmp5_unchanged (Z : State) (s_ : Addr) (ks_ : ClassId) (d_ : Addr) (kd_ : ClassId) (h0 : Heap) (n0 : Nat) (v : Option Value) (h : Heap) (L : List Loc) : Prop := v = some (ii 9) ∧ Fr n0 L ∧ Keep h0 h [d_] ∧ Arv Z h d_ kd_ .byte (9 : Int32) [(ii 117), (ii 110), (ii 99), (ii 104), (ii 97), (ii 110), (ii 103), (ii 101), (ii 100)] (ii 0)
set_option maxRecDepth 65536 in
set_option maxHeartbeats 40000000 in
theorem rm_cmp5_unchanged (l : Launch) (Z : State) (a0 : Array Value) (hw : HW Z a0) (ws : List Jvm.Cond) (s_ : Addr) (ks_ : ClassId) (d_ : Addr) (kd_ : ClassId) (h0 : Heap) (n0 : Nat) (O0 : Old Z n0 h0) (A0_ : Arv Z h0 s_ ks_ .char (9 : Int32) [(ii 117), (ii 110), (ii 99), (ii 104), (ii 97), (ii 110), (ii 103), (ii 101), (ii 100)] (ii 0)) (A1_ : Arv Z h0 d_ kd_ .byte (9 : Int32) [(ii 0), (ii 0), (ii 0), (ii 0), (ii 0), (ii 0), (ii 0), (ii 0), (ii 0)] (ii 0)) (G2_ : n0 ≤ d_) (NE3_ : s_ ≠ d_) :
  MFP l Z (⟨nm4, "compress", "([CI[BII)I"⟩ : MethodName) jdk_52_method_21_code 7 (some .int) ({ frames := 0, cells := 0, slots := 0, locals := 0 } : Room) ws #[(rr s_), (ii 0), (rr d_), (ii 0), (ii 9)] h0 (Q_cmp5_unchanged Z s_ ks_ d_ kd_ h0 n0) := by
 refine MetFree.of_bodySF (plainFor_of_name pn_java_lang_StringUTF16) hisR ?_
 intro p e s m args below meth c s₁ Bd hml0 hP hK
 obtain ⟨rfl, hZ, hh⟩ := hP
 have hx := Bd.exec
 have hby := Bd.bytes
 have hml : c.maxLocals = 7 := hml0
 have hown : s.vm.findClass nm4 = some m.cls := findClass_of_methodNamed Bd.named
 have hnm := (name_of_methodNamed Bd.named Bd.method).1
 have X0 : Stand p l e ({ frames := 0, cells := 0, slots := 0, locals := 0 } : Room) s m #[(rr s_), (ii 0), (rr d_), (ii 0), (ii 9)] below meth c s₁ [] 0 0 := Stand.of_body Bd
 have e0 : s₁.heap = h0 := by rw [← hh, Bd.state]; rfl
 have N0 := Fr.nil n0
 have kp0 : Keep h0 h0 [d_] := Keep.refl _ _
 have c0 : ∀ t, S_ p e below s₁ m 0 #[vr s_, vi 0, vr d_, vi 0, vi 9, u_, u_] [] t → Steps p.tables e below (s₁.setTop (entryFrame m #[(rr s_), (ii 0), (rr d_), (ii 0), (ii 9)] 7)) t := fun t k => castTop (ef_cmp5_unchanged m s_ d_) k
 generalize s₁.setTop (entryFrame m #[(rr s_), (ii 0), (rr d_), (ii 0), (ii 9)] 7) = st0 at c0 ⊢
 replace c0 : Kt p e below s₁ st0 (mkF m 0 #[vr s_, vi 0, vr d_, vi 0, vi 9, u_, u_] []) := c0
 have c1 : Kt p e below s₁ st0 (mkF m 31 #[vr s_, vi 0, vr d_, vi 0, vi 9, vi 0, vi 117] [(ii 117), (ii 0), (rr d_)]) := fun t k => by
  refine c0 t ?_
  show S_ p e below s₁ m 0 #[vr s_, vi 0, vr d_, vi 0, vi 9, u_, u_] [] t
  refine XS.iconst X0.here hx rfl (hb hby d0_0) ?_
  show S_ p e below s₁ m 1 #[vr s_, vi 0, vr d_, vi 0, vi 9, u_, u_] [(ii 0)] t
  refine XS.istore X0.here hx rfl (hb hby d0_1) rfl (l' := #[vr s_, vi 0, vr d_, vi 0, vi 9, vi 0, u_]) rfl ?_
  show S_ p e below s₁ m 3 #[vr s_, vi 0, vr d_, vi 0, vi 9, vi 0, u_] [] t
  refine XS.iload X0.here hx rfl (hb hby d0_3) rfl ?_
  show S_ p e below s₁ m 5 #[vr s_, vi 0, vr d_, vi 0, vi 9, vi 0, u_] [(ii 0)] t
  refine XS.iload X0.here hx rfl (hb hby d0_5) rfl ?_
  show S_ p e below s₁ m 7 #[vr s_, vi 0, vr d_, vi 0, vi 9, vi 0, u_] [(ii 9), (ii 0)] t
  refine XS.icmpNo X0.here hx rfl (hb hby d0_7) rfl rfl ?_
  show S_ p e below s₁ m 10 #[vr s_, vi 0, vr d_, vi 0, vi 9, vi 0, u_] [] t
  refine XS.aloadN X0.here hx rfl (hb hby d0_10) rfl rfl ?_
  show S_ p e below s₁ m 11 #[vr s_, vi 0, vr d_, vi 0, vi 9, vi 0, u_] [(rr s_)] t
  refine XS.iloadN X0.here hx rfl (hb hby d0_11) rfl ?_
  show S_ p e below s₁ m 12 #[vr s_, vi 0, vr d_, vi 0, vi 9, vi 0, u_] [(ii 0), (rr s_)] t
  refine ldC X0 hx hZ e0 A0_ (v := (ii 117)) (by decide) (by decide) rfl rfl rfl (hb hby d0_12) ?_
  show S_ p e below s₁ m 13 #[vr s_, vi 0, vr d_, vi 0, vi 9, vi 0, u_] [(ii 117)] t
  refine XS.istore X0.here hx rfl (hb hby d0_13) rfl (l' := #[vr s_, vi 0, vr d_, vi 0, vi 9, vi 0, vi 117]) rfl ?_
  show S_ p e below s₁ m 15 #[vr s_, vi 0, vr d_, vi 0, vi 9, vi 0, vi 117] [] t
  refine XS.iload X0.here hx rfl (hb hby d0_15) rfl ?_
  show S_ p e below s₁ m 17 #[vr s_, vi 0, vr d_, vi 0, vi 9, vi 0, vi 117] [(ii 117)] t
  refine XS.sipush X0.here hx rfl (hb hby d0_17) ?_
  show S_ p e below s₁ m 20 #[vr s_, vi 0, vr d_, vi 0, vi 9, vi 0, vi 117] [(ii 255), (ii 117)] t
  refine yC X0.here hx rfl 20 26 rfl (hb hby d0_20) rfl rfl ?_
  show S_ p e below s₁ m 26 #[vr s_, vi 0, vr d_, vi 0, vi 9, vi 0, vi 117] [] t
  refine XS.aloadN X0.here hx rfl (hb hby d0_26) rfl rfl ?_
  show S_ p e below s₁ m 27 #[vr s_, vi 0, vr d_, vi 0, vi 9, vi 0, vi 117] [(rr d_)] t
  refine XS.iloadN X0.here hx rfl (hb hby d0_27) rfl ?_
  show S_ p e below s₁ m 28 #[vr s_, vi 0, vr d_, vi 0, vi 9, vi 0, vi 117] [(ii 0), (rr d_)] t
  refine XS.iload X0.here hx rfl (hb hby d0_28) rfl ?_
  show S_ p e below s₁ m 30 #[vr s_, vi 0, vr d_, vi 0, vi 9, vi 0, vi 117] [(ii 117), (ii 0), (rr d_)] t
  refine XS.i2b X0.here hx rfl (hb hby d0_30) rfl ?_
  exact k
 obtain ⟨T2, h2, X2, e2, W2, f5, o3, N4, c2⟩ := kstB X0 hx hZ e0 A1_ (j := (0 : Int32)) (by decide) (by decide) 0 rfl (Nat.le_of_ble_eq_true rfl) c1 rfl rfl (hb hby d0_31) O0 N0 G2_
 have f6 : Arv Z h2 d_ kd_ .byte (9 : Int32) [(ii 117), (ii 0), (ii 0), (ii 0), (ii 0), (ii 0), (ii 0), (ii 0), (ii 0)] (ii 0) := f5
 have kp7 := kp0.wr W2 (Or.inl (List.mem_of_getElem? (i := 0) rfl))
 have c8 : Kt p e below T2 st0 (mkF m 31 #[vr s_, vi 1, vr d_, vi 1, vi 9, vi 1, vi 110] [(ii 110), (ii 1), (rr d_)]) := fun t k => by
  refine c2 t ?_
  show S_ p e below T2 m 32 #[vr s_, vi 0, vr d_, vi 0, vi 9, vi 0, vi 117] [] t
  refine XS.iinc X2.here hx rfl (hb hby d0_32) rfl (l' := #[vr s_, vi 1, vr d_, vi 0, vi 9, vi 0, vi 117]) rfl ?_
  show S_ p e below T2 m 35 #[vr s_, vi 1, vr d_, vi 0, vi 9, vi 0, vi 117] [] t
  refine XS.iinc X2.here hx rfl (hb hby d0_35) rfl (l' := #[vr s_, vi 1, vr d_, vi 1, vi 9, vi 0, vi 117]) rfl ?_
  show S_ p e below T2 m 38 #[vr s_, vi 1, vr d_, vi 1, vi 9, vi 0, vi 117] [] t
  refine XS.iinc X2.here hx rfl (hb hby d0_38) rfl (l' := #[vr s_, vi 1, vr d_, vi 1, vi 9, vi 1, vi 117]) rfl ?_
  show S_ p e below T2 m 41 #[vr s_, vi 1, vr d_, vi 1, vi 9, vi 1, vi 117] [] t
  refine yG X2.here hx rfl 41 3 rfl (hb hby d0_41) ?_
  show S_ p e below T2 m 3 #[vr s_, vi 1, vr d_, vi 1, vi 9, vi 1, vi 117] [] t
  refine XS.iload X2.here hx rfl (hb hby d0_3) rfl ?_
  show S_ p e below T2 m 5 #[vr s_, vi 1, vr d_, vi 1, vi 9, vi 1, vi 117] [(ii 1)] t
  refine XS.iload X2.here hx rfl (hb hby d0_5) rfl ?_
  show S_ p e below T2 m 7 #[vr s_, vi 1, vr d_, vi 1, vi 9, vi 1, vi 117] [(ii 9), (ii 1)] t
  refine XS.icmpNo X2.here hx rfl (hb hby d0_7) rfl rfl ?_
  show S_ p e below T2 m 10 #[vr s_, vi 1, vr d_, vi 1, vi 9, vi 1, vi 117] [] t
  refine XS.aloadN X2.here hx rfl (hb hby d0_10) rfl rfl ?_
  show S_ p e below T2 m 11 #[vr s_, vi 1, vr d_, vi 1, vi 9, vi 1, vi 117] [(rr s_)] t
  refine XS.iloadN X2.here hx rfl (hb hby d0_11) rfl ?_
  show S_ p e below T2 m 12 #[vr s_, vi 1, vr d_, vi 1, vi 9, vi 1, vi 117] [(ii 1), (rr s_)] t
  refine ldC X2 hx hZ e2 (A0_.other W2 NE3_) (v := (ii 110)) (by decide) (by decide) rfl rfl rfl (hb hby d0_12) ?_
  show S_ p e below T2 m 13 #[vr s_, vi 1, vr d_, vi 1, vi 9, vi 1, vi 117] [(ii 110)] t
  refine XS.istore X2.here hx rfl (hb hby d0_13) rfl (l' := #[vr s_, vi 1, vr d_, vi 1, vi 9, vi 1, vi 110]) rfl ?_
  show S_ p e below T2 m 15 #[vr s_, vi 1, vr d_, vi 1, vi 9, vi 1, vi 110] [] t
  refine XS.iload X2.here hx rfl (hb hby d0_15) rfl ?_
  show S_ p e below T2 m 17 #[vr s_, vi 1, vr d_, vi 1, vi 9, vi 1, vi 110] [(ii 110)] t
  refine XS.sipush X2.here hx rfl (hb hby d0_17) ?_
  show S_ p e below T2 m 20 #[vr s_, vi 1, vr d_, vi 1, vi 9, vi 1, vi 110] [(ii 255), (ii 110)] t
  refine yC X2.here hx rfl 20 26 rfl (hb hby d0_20) rfl rfl ?_
  show S_ p e below T2 m 26 #[vr s_, vi 1, vr d_, vi 1, vi 9, vi 1, vi 110] [] t
  refine XS.aloadN X2.here hx rfl (hb hby d0_26) rfl rfl ?_
  show S_ p e below T2 m 27 #[vr s_, vi 1, vr d_, vi 1, vi 9, vi 1, vi 110] [(rr d_)] t
  refine XS.iloadN X2.here hx rfl (hb hby d0_27) rfl ?_
  show S_ p e below T2 m 28 #[vr s_, vi 1, vr d_, vi 1, vi 9, vi 1, vi 110] [(ii 1), (rr d_)] t
  refine XS.iload X2.here hx rfl (hb hby d0_28) rfl ?_
  show S_ p e below T2 m 30 #[vr s_, vi 1, vr d_, vi 1, vi 9, vi 1, vi 110] [(ii 110), (ii 1), (rr d_)] t
  refine XS.i2b X2.here hx rfl (hb hby d0_30) rfl ?_
  exact k
 obtain ⟨T9, h9, X9, e9, W9, f12, o10, N11, c9⟩ := kstB X2 hx hZ e2 f6 (j := (1 : Int32)) (by decide) (by decide) 1 rfl (Nat.le_of_ble_eq_true rfl) c8 rfl rfl (hb hby d0_31) o3 N4 G2_
 have f13 : Arv Z h9 d_ kd_ .byte (9 : Int32) [(ii 117), (ii 110), (ii 0), (ii 0), (ii 0), (ii 0), (ii 0), (ii 0), (ii 0)] (ii 0) := f12
 have kp14 := kp7.wr W9 (Or.inl (List.mem_of_getElem? (i := 0) rfl))
 have c15 : Kt p e below T9 st0 (mkF m 31 #[vr s_, vi 2, vr d_, vi 2, vi 9, vi 2, vi 99] [(ii 99), (ii 2), (rr d_)]) := fun t k => by
  refine c9 t ?_
  show S_ p e below T9 m 32 #[vr s_, vi 1, vr d_, vi 1, vi 9, vi 1, vi 110] [] t
  refine XS.iinc X9.here hx rfl (hb hby d0_32) rfl (l' := #[vr s_, vi 2, vr d_, vi 1, vi 9, vi 1, vi 110]) rfl ?_
  show S_ p e below T9 m 35 #[vr s_, vi 2, vr d_, vi 1, vi 9, vi 1, vi 110] [] t
  refine XS.iinc X9.here hx rfl (hb hby d0_35) rfl (l' := #[vr s_, vi 2, vr d_, vi 2, vi 9, vi 1, vi 110]) rfl ?_
  show S_ p e below T9 m 38 #[vr s_, vi 2, vr d_, vi 2, vi 9, vi 1, vi 110] [] t
  refine XS.iinc X9.here hx rfl (hb hby d0_38) rfl (l' := #[vr s_, vi 2, vr d_, vi 2, vi 9, vi 2, vi 110]) rfl ?_
  show S_ p e below T9 m 41 #[vr s_, vi 2, vr d_, vi 2, vi 9, vi 2, vi 110] [] t
  refine yG X9.here hx rfl 41 3 rfl (hb hby d0_41) ?_
  show S_ p e below T9 m 3 #[vr s_, vi 2, vr d_, vi 2, vi 9, vi 2, vi 110] [] t
  refine XS.iload X9.here hx rfl (hb hby d0_3) rfl ?_
  show S_ p e below T9 m 5 #[vr s_, vi 2, vr d_, vi 2, vi 9, vi 2, vi 110] [(ii 2)] t
  refine XS.iload X9.here hx rfl (hb hby d0_5) rfl ?_
  show S_ p e below T9 m 7 #[vr s_, vi 2, vr d_, vi 2, vi 9, vi 2, vi 110] [(ii 9), (ii 2)] t
  refine XS.icmpNo X9.here hx rfl (hb hby d0_7) rfl rfl ?_
  show S_ p e below T9 m 10 #[vr s_, vi 2, vr d_, vi 2, vi 9, vi 2, vi 110] [] t
  refine XS.aloadN X9.here hx rfl (hb hby d0_10) rfl rfl ?_
  show S_ p e below T9 m 11 #[vr s_, vi 2, vr d_, vi 2, vi 9, vi 2, vi 110] [(rr s_)] t
  refine XS.iloadN X9.here hx rfl (hb hby d0_11) rfl ?_
  show S_ p e below T9 m 12 #[vr s_, vi 2, vr d_, vi 2, vi 9, vi 2, vi 110] [(ii 2), (rr s_)] t
  refine ldC X9 hx hZ e9 ((A0_.other W2 NE3_).other W9 NE3_) (v := (ii 99)) (by decide) (by decide) rfl rfl rfl (hb hby d0_12) ?_
  show S_ p e below T9 m 13 #[vr s_, vi 2, vr d_, vi 2, vi 9, vi 2, vi 110] [(ii 99)] t
  refine XS.istore X9.here hx rfl (hb hby d0_13) rfl (l' := #[vr s_, vi 2, vr d_, vi 2, vi 9, vi 2, vi 99]) rfl ?_
  show S_ p e below T9 m 15 #[vr s_, vi 2, vr d_, vi 2, vi 9, vi 2, vi 99] [] t
  refine XS.iload X9.here hx rfl (hb hby d0_15) rfl ?_
  show S_ p e below T9 m 17 #[vr s_, vi 2, vr d_, vi 2, vi 9, vi 2, vi 99] [(ii 99)] t
  refine XS.sipush X9.here hx rfl (hb hby d0_17) ?_
  show S_ p e below T9 m 20 #[vr s_, vi 2, vr d_, vi 2, vi 9, vi 2, vi 99] [(ii 255), (ii 99)] t
  refine yC X9.here hx rfl 20 26 rfl (hb hby d0_20) rfl rfl ?_
  show S_ p e below T9 m 26 #[vr s_, vi 2, vr d_, vi 2, vi 9, vi 2, vi 99] [] t
  refine XS.aloadN X9.here hx rfl (hb hby d0_26) rfl rfl ?_
  show S_ p e below T9 m 27 #[vr s_, vi 2, vr d_, vi 2, vi 9, vi 2, vi 99] [(rr d_)] t
  refine XS.iloadN X9.here hx rfl (hb hby d0_27) rfl ?_
  show S_ p e below T9 m 28 #[vr s_, vi 2, vr d_, vi 2, vi 9, vi 2, vi 99] [(ii 2), (rr d_)] t
  refine XS.iload X9.here hx rfl (hb hby d0_28) rfl ?_
  show S_ p e below T9 m 30 #[vr s_, vi 2, vr d_, vi 2, vi 9, vi 2, vi 99] [(ii 99), (ii 2), (rr d_)] t
  refine XS.i2b X9.here hx rfl (hb hby d0_30) rfl ?_
  exact k
 obtain ⟨T16, h16, X16, e16, W16, f19, o17, N18, c16⟩ := kstB X9 hx hZ e9 f13 (j := (2 : Int32)) (by decide) (by decide) 2 rfl (Nat.le_of_ble_eq_true rfl) c15 rfl rfl (hb hby d0_31) o10 N11 G2_
 have f20 : Arv Z h16 d_ kd_ .byte (9 : Int32) [(ii 117), (ii 110), (ii 99), (ii 0), (ii 0), (ii 0), (ii 0), (ii 0), (ii 0)] (ii 0) := f19
 have kp21 := kp14.wr W16 (Or.inl (List.mem_of_getElem? (i := 0) rfl))
 have c22 : Kt p e below T16 st0 (mkF m 31 #[vr s_, vi 3, vr d_, vi 3, vi 9, vi 3, vi 104] [(ii 104), (ii 3), (rr d_)]) := fun t k => by
  refine c16 t ?_
  show S_ p e below T16 m 32 #[vr s_, vi 2, vr d_, vi 2, vi 9, vi 2, vi 99] [] t
  refine XS.iinc X16.here hx rfl (hb hby d0_32) rfl (l' := #[vr s_, vi 3, vr d_, vi 2, vi 9, vi 2, vi 99]) rfl ?_
  show S_ p e below T16 m 35 #[vr s_, vi 3, vr d_, vi 2, vi 9, vi 2, vi 99] [] t
  refine XS.iinc X16.here hx rfl (hb hby d0_35) rfl (l' := #[vr s_, vi 3, vr d_, vi 3, vi 9, vi 2, vi 99]) rfl ?_
  show S_ p e below T16 m 38 #[vr s_, vi 3, vr d_, vi 3, vi 9, vi 2, vi 99] [] t
  refine XS.iinc X16.here hx rfl (hb hby d0_38) rfl (l' := #[vr s_, vi 3, vr d_, vi 3, vi 9, vi 3, vi 99]) rfl ?_
  show S_ p e below T16 m 41 #[vr s_, vi 3, vr d_, vi 3, vi 9, vi 3, vi 99] [] t
  refine yG X16.here hx rfl 41 3 rfl (hb hby d0_41) ?_
  show S_ p e below T16 m 3 #[vr s_, vi 3, vr d_, vi 3, vi 9, vi 3, vi 99] [] t
  refine XS.iload X16.here hx rfl (hb hby d0_3) rfl ?_
  show S_ p e below T16 m 5 #[vr s_, vi 3, vr d_, vi 3, vi 9, vi 3, vi 99] [(ii 3)] t
  refine XS.iload X16.here hx rfl (hb hby d0_5) rfl ?_
  show S_ p e below T16 m 7 #[vr s_, vi 3, vr d_, vi 3, vi 9, vi 3, vi 99] [(ii 9), (ii 3)] t
  refine XS.icmpNo X16.here hx rfl (hb hby d0_7) rfl rfl ?_
  show S_ p e below T16 m 10 #[vr s_, vi 3, vr d_, vi 3, vi 9, vi 3, vi 99] [] t
  refine XS.aloadN X16.here hx rfl (hb hby d0_10) rfl rfl ?_
  show S_ p e below T16 m 11 #[vr s_, vi 3, vr d_, vi 3, vi 9, vi 3, vi 99] [(rr s_)] t
  refine XS.iloadN X16.here hx rfl (hb hby d0_11) rfl ?_
  show S_ p e below T16 m 12 #[vr s_, vi 3, vr d_, vi 3, vi 9, vi 3, vi 99] [(ii 3), (rr s_)] t
  refine ldC X16 hx hZ e16 (((A0_.other W2 NE3_).other W9 NE3_).other W16 NE3_) (v := (ii 104)) (by decide) (by decide) rfl rfl rfl (hb hby d0_12) ?_
  show S_ p e below T16 m 13 #[vr s_, vi 3, vr d_, vi 3, vi 9, vi 3, vi 99] [(ii 104)] t
  refine XS.istore X16.here hx rfl (hb hby d0_13) rfl (l' := #[vr s_, vi 3, vr d_, vi 3, vi 9, vi 3, vi 104]) rfl ?_
  show S_ p e below T16 m 15 #[vr s_, vi 3, vr d_, vi 3, vi 9, vi 3, vi 104] [] t
  refine XS.iload X16.here hx rfl (hb hby d0_15) rfl ?_
  show S_ p e below T16 m 17 #[vr s_, vi 3, vr d_, vi 3, vi 9, vi 3, vi 104] [(ii 104)] t
  refine XS.sipush X16.here hx rfl (hb hby d0_17) ?_
  show S_ p e below T16 m 20 #[vr s_, vi 3, vr d_, vi 3, vi 9, vi 3, vi 104] [(ii 255), (ii 104)] t
  refine yC X16.here hx rfl 20 26 rfl (hb hby d0_20) rfl rfl ?_
  show S_ p e below T16 m 26 #[vr s_, vi 3, vr d_, vi 3, vi 9, vi 3, vi 104] [] t
  refine XS.aloadN X16.here hx rfl (hb hby d0_26) rfl rfl ?_
  show S_ p e below T16 m 27 #[vr s_, vi 3, vr d_, vi 3, vi 9, vi 3, vi 104] [(rr d_)] t
  refine XS.iloadN X16.here hx rfl (hb hby d0_27) rfl ?_
  show S_ p e below T16 m 28 #[vr s_, vi 3, vr d_, vi 3, vi 9, vi 3, vi 104] [(ii 3), (rr d_)] t
  refine XS.iload X16.here hx rfl (hb hby d0_28) rfl ?_
  show S_ p e below T16 m 30 #[vr s_, vi 3, vr d_, vi 3, vi 9, vi 3, vi 104] [(ii 104), (ii 3), (rr d_)] t
  refine XS.i2b X16.here hx rfl (hb hby d0_30) rfl ?_
  exact k
 obtain ⟨T23, h23, X23, e23, W23, f26, o24, N25, c23⟩ := kstB X16 hx hZ e16 f20 (j := (3 : Int32)) (by decide) (by decide) 3 rfl (Nat.le_of_ble_eq_true rfl) c22 rfl rfl (hb hby d0_31) o17 N18 G2_
 have f27 : Arv Z h23 d_ kd_ .byte (9 : Int32) [(ii 117), (ii 110), (ii 99), (ii 104), (ii 0), (ii 0), (ii 0), (ii 0), (ii 0)] (ii 0) := f26
 have kp28 := kp21.wr W23 (Or.inl (List.mem_of_getElem? (i := 0) rfl))
 have c29 : Kt p e below T23 st0 (mkF m 31 #[vr s_, vi 4, vr d_, vi 4, vi 9, vi 4, vi 97] [(ii 97), (ii 4), (rr d_)]) := fun t k => by
  refine c23 t ?_
  show S_ p e below T23 m 32 #[vr s_, vi 3, vr d_, vi 3, vi 9, vi 3, vi 104] [] t
  refine XS.iinc X23.here hx rfl (hb hby d0_32) rfl (l' := #[vr s_, vi 4, vr d_, vi 3, vi 9, vi 3, vi 104]) rfl ?_
  show S_ p e below T23 m 35 #[vr s_, vi 4, vr d_, vi 3, vi 9, vi 3, vi 104] [] t
  refine XS.iinc X23.here hx rfl (hb hby d0_35) rfl (l' := #[vr s_, vi 4, vr d_, vi 4, vi 9, vi 3, vi 104]) rfl ?_
  show S_ p e below T23 m 38 #[vr s_, vi 4, vr d_, vi 4, vi 9, vi 3, vi 104] [] t
  refine XS.iinc X23.here hx rfl (hb hby d0_38) rfl (l' := #[vr s_, vi 4, vr d_, vi 4, vi 9, vi 4, vi 104]) rfl ?_
  show S_ p e below T23 m 41 #[vr s_, vi 4, vr d_, vi 4, vi 9, vi 4, vi 104] [] t
  refine yG X23.here hx rfl 41 3 rfl (hb hby d0_41) ?_
  show S_ p e below T23 m 3 #[vr s_, vi 4, vr d_, vi 4, vi 9, vi 4, vi 104] [] t
  refine XS.iload X23.here hx rfl (hb hby d0_3) rfl ?_
  show S_ p e below T23 m 5 #[vr s_, vi 4, vr d_, vi 4, vi 9, vi 4, vi 104] [(ii 4)] t
  refine XS.iload X23.here hx rfl (hb hby d0_5) rfl ?_
  show S_ p e below T23 m 7 #[vr s_, vi 4, vr d_, vi 4, vi 9, vi 4, vi 104] [(ii 9), (ii 4)] t
  refine XS.icmpNo X23.here hx rfl (hb hby d0_7) rfl rfl ?_
  show S_ p e below T23 m 10 #[vr s_, vi 4, vr d_, vi 4, vi 9, vi 4, vi 104] [] t
  refine XS.aloadN X23.here hx rfl (hb hby d0_10) rfl rfl ?_
  show S_ p e below T23 m 11 #[vr s_, vi 4, vr d_, vi 4, vi 9, vi 4, vi 104] [(rr s_)] t
  refine XS.iloadN X23.here hx rfl (hb hby d0_11) rfl ?_
  show S_ p e below T23 m 12 #[vr s_, vi 4, vr d_, vi 4, vi 9, vi 4, vi 104] [(ii 4), (rr s_)] t
  refine ldC X23 hx hZ e23 ((((A0_.other W2 NE3_).other W9 NE3_).other W16 NE3_).other W23 NE3_) (v := (ii 97)) (by decide) (by decide) rfl rfl rfl (hb hby d0_12) ?_
  show S_ p e below T23 m 13 #[vr s_, vi 4, vr d_, vi 4, vi 9, vi 4, vi 104] [(ii 97)] t
  refine XS.istore X23.here hx rfl (hb hby d0_13) rfl (l' := #[vr s_, vi 4, vr d_, vi 4, vi 9, vi 4, vi 97]) rfl ?_
  show S_ p e below T23 m 15 #[vr s_, vi 4, vr d_, vi 4, vi 9, vi 4, vi 97] [] t
  refine XS.iload X23.here hx rfl (hb hby d0_15) rfl ?_
  show S_ p e below T23 m 17 #[vr s_, vi 4, vr d_, vi 4, vi 9, vi 4, vi 97] [(ii 97)] t
  refine XS.sipush X23.here hx rfl (hb hby d0_17) ?_
  show S_ p e below T23 m 20 #[vr s_, vi 4, vr d_, vi 4, vi 9, vi 4, vi 97] [(ii 255), (ii 97)] t
  refine yC X23.here hx rfl 20 26 rfl (hb hby d0_20) rfl rfl ?_
  show S_ p e below T23 m 26 #[vr s_, vi 4, vr d_, vi 4, vi 9, vi 4, vi 97] [] t
  refine XS.aloadN X23.here hx rfl (hb hby d0_26) rfl rfl ?_
  show S_ p e below T23 m 27 #[vr s_, vi 4, vr d_, vi 4, vi 9, vi 4, vi 97] [(rr d_)] t
  refine XS.iloadN X23.here hx rfl (hb hby d0_27) rfl ?_
  show S_ p e below T23 m 28 #[vr s_, vi 4, vr d_, vi 4, vi 9, vi 4, vi 97] [(ii 4), (rr d_)] t
  refine XS.iload X23.here hx rfl (hb hby d0_28) rfl ?_
  show S_ p e below T23 m 30 #[vr s_, vi 4, vr d_, vi 4, vi 9, vi 4, vi 97] [(ii 97), (ii 4), (rr d_)] t
  refine XS.i2b X23.here hx rfl (hb hby d0_30) rfl ?_
  exact k
 obtain ⟨T30, h30, X30, e30, W30, f33, o31, N32, c30⟩ := kstB X23 hx hZ e23 f27 (j := (4 : Int32)) (by decide) (by decide) 4 rfl (Nat.le_of_ble_eq_true rfl) c29 rfl rfl (hb hby d0_31) o24 N25 G2_
 have f34 : Arv Z h30 d_ kd_ .byte (9 : Int32) [(ii 117), (ii 110), (ii 99), (ii 104), (ii 97), (ii 0), (ii 0), (ii 0), (ii 0)] (ii 0) := f33
 have kp35 := kp28.wr W30 (Or.inl (List.mem_of_getElem? (i := 0) rfl))
 have c36 : Kt p e below T30 st0 (mkF m 31 #[vr s_, vi 5, vr d_, vi 5, vi 9, vi 5, vi 110] [(ii 110), (ii 5), (rr d_)]) := fun t k => by
  refine c30 t ?_
  show S_ p e below T30 m 32 #[vr s_, vi 4, vr d_, vi 4, vi 9, vi 4, vi 97] [] t
  refine XS.iinc X30.here hx rfl (hb hby d0_32) rfl (l' := #[vr s_, vi 5, vr d_, vi 4, vi 9, vi 4, vi 97]) rfl ?_
  show S_ p e below T30 m 35 #[vr s_, vi 5, vr d_, vi 4, vi 9, vi 4, vi 97] [] t
  refine XS.iinc X30.here hx rfl (hb hby d0_35) rfl (l' := #[vr s_, vi 5, vr d_, vi 5, vi 9, vi 4, vi 97]) rfl ?_
  show S_ p e below T30 m 38 #[vr s_, vi 5, vr d_, vi 5, vi 9, vi 4, vi 97] [] t
  refine XS.iinc X30.here hx rfl (hb hby d0_38) rfl (l' := #[vr s_, vi 5, vr d_, vi 5, vi 9, vi 5, vi 97]) rfl ?_
  show S_ p e below T30 m 41 #[vr s_, vi 5, vr d_, vi 5, vi 9, vi 5, vi 97] [] t
  refine yG X30.here hx rfl 41 3 rfl (hb hby d0_41) ?_
  show S_ p e below T30 m 3 #[vr s_, vi 5, vr d_, vi 5, vi 9, vi 5, vi 97] [] t
  refine XS.iload X30.here hx rfl (hb hby d0_3) rfl ?_
  show S_ p e below T30 m 5 #[vr s_, vi 5, vr d_, vi 5, vi 9, vi 5, vi 97] [(ii 5)] t
  refine XS.iload X30.here hx rfl (hb hby d0_5) rfl ?_
  show S_ p e below T30 m 7 #[vr s_, vi 5, vr d_, vi 5, vi 9, vi 5, vi 97] [(ii 9), (ii 5)] t
  refine XS.icmpNo X30.here hx rfl (hb hby d0_7) rfl rfl ?_
  show S_ p e below T30 m 10 #[vr s_, vi 5, vr d_, vi 5, vi 9, vi 5, vi 97] [] t
  refine XS.aloadN X30.here hx rfl (hb hby d0_10) rfl rfl ?_
  show S_ p e below T30 m 11 #[vr s_, vi 5, vr d_, vi 5, vi 9, vi 5, vi 97] [(rr s_)] t
  refine XS.iloadN X30.here hx rfl (hb hby d0_11) rfl ?_
  show S_ p e below T30 m 12 #[vr s_, vi 5, vr d_, vi 5, vi 9, vi 5, vi 97] [(ii 5), (rr s_)] t
  refine ldC X30 hx hZ e30 (((((A0_.other W2 NE3_).other W9 NE3_).other W16 NE3_).other W23 NE3_).other W30 NE3_) (v := (ii 110)) (by decide) (by decide) rfl rfl rfl (hb hby d0_12) ?_
  show S_ p e below T30 m 13 #[vr s_, vi 5, vr d_, vi 5, vi 9, vi 5, vi 97] [(ii 110)] t
  refine XS.istore X30.here hx rfl (hb hby d0_13) rfl (l' := #[vr s_, vi 5, vr d_, vi 5, vi 9, vi 5, vi 110]) rfl ?_
  show S_ p e below T30 m 15 #[vr s_, vi 5, vr d_, vi 5, vi 9, vi 5, vi 110] [] t
  refine XS.iload X30.here hx rfl (hb hby d0_15) rfl ?_
  show S_ p e below T30 m 17 #[vr s_, vi 5, vr d_, vi 5, vi 9, vi 5, vi 110] [(ii 110)] t
  refine XS.sipush X30.here hx rfl (hb hby d0_17) ?_
  show S_ p e below T30 m 20 #[vr s_, vi 5, vr d_, vi 5, vi 9, vi 5, vi 110] [(ii 255), (ii 110)] t
  refine yC X30.here hx rfl 20 26 rfl (hb hby d0_20) rfl rfl ?_
  show S_ p e below T30 m 26 #[vr s_, vi 5, vr d_, vi 5, vi 9, vi 5, vi 110] [] t
  refine XS.aloadN X30.here hx rfl (hb hby d0_26) rfl rfl ?_
  show S_ p e below T30 m 27 #[vr s_, vi 5, vr d_, vi 5, vi 9, vi 5, vi 110] [(rr d_)] t
  refine XS.iloadN X30.here hx rfl (hb hby d0_27) rfl ?_
  show S_ p e below T30 m 28 #[vr s_, vi 5, vr d_, vi 5, vi 9, vi 5, vi 110] [(ii 5), (rr d_)] t
  refine XS.iload X30.here hx rfl (hb hby d0_28) rfl ?_
  show S_ p e below T30 m 30 #[vr s_, vi 5, vr d_, vi 5, vi 9, vi 5, vi 110] [(ii 110), (ii 5), (rr d_)] t
  refine XS.i2b X30.here hx rfl (hb hby d0_30) rfl ?_
  exact k
 obtain ⟨T37, h37, X37, e37, W37, f40, o38, N39, c37⟩ := kstB X30 hx hZ e30 f34 (j := (5 : Int32)) (by decide) (by decide) 5 rfl (Nat.le_of_ble_eq_true rfl) c36 rfl rfl (hb hby d0_31) o31 N32 G2_
 have f41 : Arv Z h37 d_ kd_ .byte (9 : Int32) [(ii 117), (ii 110), (ii 99), (ii 104), (ii 97), (ii 110), (ii 0), (ii 0), (ii 0)] (ii 0) := f40
 have kp42 := kp35.wr W37 (Or.inl (List.mem_of_getElem? (i := 0) rfl))
 have c43 : Kt p e below T37 st0 (mkF m 31 #[vr s_, vi 6, vr d_, vi 6, vi 9, vi 6, vi 103] [(ii 103), (ii 6), (rr d_)]) := fun t k => by
  refine c37 t ?_
  show S_ p e below T37 m 32 #[vr s_, vi 5, vr d_, vi 5, vi 9, vi 5, vi 110] [] t
  refine XS.iinc X37.here hx rfl (hb hby d0_32) rfl (l' := #[vr s_, vi 6, vr d_, vi 5, vi 9, vi 5, vi 110]) rfl ?_
  show S_ p e below T37 m 35 #[vr s_, vi 6, vr d_, vi 5, vi 9, vi 5, vi 110] [] t
  refine XS.iinc X37.here hx rfl (hb hby d0_35) rfl (l' := #[vr s_, vi 6, vr d_, vi 6, vi 9, vi 5, vi 110]) rfl ?_
  show S_ p e below T37 m 38 #[vr s_, vi 6, vr d_, vi 6, vi 9, vi 5, vi 110] [] t
  refine XS.iinc X37.here hx rfl (hb hby d0_38) rfl (l' := #[vr s_, vi 6, vr d_, vi 6, vi 9, vi 6, vi 110]) rfl ?_
  show S_ p e below T37 m 41 #[vr s_, vi 6, vr d_, vi 6, vi 9, vi 6, vi 110] [] t
  refine yG X37.here hx rfl 41 3 rfl (hb hby d0_41) ?_
  show S_ p e below T37 m 3 #[vr s_, vi 6, vr d_, vi 6, vi 9, vi 6, vi 110] [] t
  refine XS.iload X37.here hx rfl (hb hby d0_3) rfl ?_
  show S_ p e below T37 m 5 #[vr s_, vi 6, vr d_, vi 6, vi 9, vi 6, vi 110] [(ii 6)] t
  refine XS.iload X37.here hx rfl (hb hby d0_5) rfl ?_
  show S_ p e below T37 m 7 #[vr s_, vi 6, vr d_, vi 6, vi 9, vi 6, vi 110] [(ii 9), (ii 6)] t
  refine XS.icmpNo X37.here hx rfl (hb hby d0_7) rfl rfl ?_
  show S_ p e below T37 m 10 #[vr s_, vi 6, vr d_, vi 6, vi 9, vi 6, vi 110] [] t
  refine XS.aloadN X37.here hx rfl (hb hby d0_10) rfl rfl ?_
  show S_ p e below T37 m 11 #[vr s_, vi 6, vr d_, vi 6, vi 9, vi 6, vi 110] [(rr s_)] t
  refine XS.iloadN X37.here hx rfl (hb hby d0_11) rfl ?_
  show S_ p e below T37 m 12 #[vr s_, vi 6, vr d_, vi 6, vi 9, vi 6, vi 110] [(ii 6), (rr s_)] t
  refine ldC X37 hx hZ e37 ((((((A0_.other W2 NE3_).other W9 NE3_).other W16 NE3_).other W23 NE3_).other W30 NE3_).other W37 NE3_) (v := (ii 103)) (by decide) (by decide) rfl rfl rfl (hb hby d0_12) ?_
  show S_ p e below T37 m 13 #[vr s_, vi 6, vr d_, vi 6, vi 9, vi 6, vi 110] [(ii 103)] t
  refine XS.istore X37.here hx rfl (hb hby d0_13) rfl (l' := #[vr s_, vi 6, vr d_, vi 6, vi 9, vi 6, vi 103]) rfl ?_
  show S_ p e below T37 m 15 #[vr s_, vi 6, vr d_, vi 6, vi 9, vi 6, vi 103] [] t
  refine XS.iload X37.here hx rfl (hb hby d0_15) rfl ?_
  show S_ p e below T37 m 17 #[vr s_, vi 6, vr d_, vi 6, vi 9, vi 6, vi 103] [(ii 103)] t
  refine XS.sipush X37.here hx rfl (hb hby d0_17) ?_
  show S_ p e below T37 m 20 #[vr s_, vi 6, vr d_, vi 6, vi 9, vi 6, vi 103] [(ii 255), (ii 103)] t
  refine yC X37.here hx rfl 20 26 rfl (hb hby d0_20) rfl rfl ?_
  show S_ p e below T37 m 26 #[vr s_, vi 6, vr d_, vi 6, vi 9, vi 6, vi 103] [] t
  refine XS.aloadN X37.here hx rfl (hb hby d0_26) rfl rfl ?_
  show S_ p e below T37 m 27 #[vr s_, vi 6, vr d_, vi 6, vi 9, vi 6, vi 103] [(rr d_)] t
  refine XS.iloadN X37.here hx rfl (hb hby d0_27) rfl ?_
  show S_ p e below T37 m 28 #[vr s_, vi 6, vr d_, vi 6, vi 9, vi 6, vi 103] [(ii 6), (rr d_)] t
  refine XS.iload X37.here hx rfl (hb hby d0_28) rfl ?_
  show S_ p e below T37 m 30 #[vr s_, vi 6, vr d_, vi 6, vi 9, vi 6, vi 103] [(ii 103), (ii 6), (rr d_)] t
  refine XS.i2b X37.here hx rfl (hb hby d0_30) rfl ?_
  exact k
 obtain ⟨T44, h44, X44, e44, W44, f47, o45, N46, c44⟩ := kstB X37 hx hZ e37 f41 (j := (6 : Int32)) (by decide) (by decide) 6 rfl (Nat.le_of_ble_eq_true rfl) c43 rfl rfl (hb hby d0_31) o38 N39 G2_
 have f48 : Arv Z h44 d_ kd_ .byte (9 : Int32) [(ii 117), (ii 110), (ii 99), (ii 104), (ii 97), (ii 110), (ii 103), (ii 0), (ii 0)] (ii 0) := f47
 have kp49 := kp42.wr W44 (Or.inl (List.mem_of_getElem? (i := 0) rfl))
 have f50 := ((((((A0_.other W2 NE3_).other W9 NE3_).other W16 NE3_).other W23 NE3_).other W30 NE3_).other W37 NE3_).other W44 NE3_
 have c51 : Kt p e below T44 st0 (mkF m 31 #[vr s_, vi 7, vr d_, vi 7, vi 9, vi 7, vi 101] [(ii 101), (ii 7), (rr d_)]) := fun t k => by
  refine c44 t ?_
  show S_ p e below T44 m 32 #[vr s_, vi 6, vr d_, vi 6, vi 9, vi 6, vi 103] [] t
  refine XS.iinc X44.here hx rfl (hb hby d0_32) rfl (l' := #[vr s_, vi 7, vr d_, vi 6, vi 9, vi 6, vi 103]) rfl ?_
  show S_ p e below T44 m 35 #[vr s_, vi 7, vr d_, vi 6, vi 9, vi 6, vi 103] [] t
  refine XS.iinc X44.here hx rfl (hb hby d0_35) rfl (l' := #[vr s_, vi 7, vr d_, vi 7, vi 9, vi 6, vi 103]) rfl ?_
  show S_ p e below T44 m 38 #[vr s_, vi 7, vr d_, vi 7, vi 9, vi 6, vi 103] [] t
  refine XS.iinc X44.here hx rfl (hb hby d0_38) rfl (l' := #[vr s_, vi 7, vr d_, vi 7, vi 9, vi 7, vi 103]) rfl ?_
  show S_ p e below T44 m 41 #[vr s_, vi 7, vr d_, vi 7, vi 9, vi 7, vi 103] [] t
  refine yG X44.here hx rfl 41 3 rfl (hb hby d0_41) ?_
  show S_ p e below T44 m 3 #[vr s_, vi 7, vr d_, vi 7, vi 9, vi 7, vi 103] [] t
  refine XS.iload X44.here hx rfl (hb hby d0_3) rfl ?_
  show S_ p e below T44 m 5 #[vr s_, vi 7, vr d_, vi 7, vi 9, vi 7, vi 103] [(ii 7)] t
  refine XS.iload X44.here hx rfl (hb hby d0_5) rfl ?_
  show S_ p e below T44 m 7 #[vr s_, vi 7, vr d_, vi 7, vi 9, vi 7, vi 103] [(ii 9), (ii 7)] t
  refine XS.icmpNo X44.here hx rfl (hb hby d0_7) rfl rfl ?_
  show S_ p e below T44 m 10 #[vr s_, vi 7, vr d_, vi 7, vi 9, vi 7, vi 103] [] t
  refine XS.aloadN X44.here hx rfl (hb hby d0_10) rfl rfl ?_
  show S_ p e below T44 m 11 #[vr s_, vi 7, vr d_, vi 7, vi 9, vi 7, vi 103] [(rr s_)] t
  refine XS.iloadN X44.here hx rfl (hb hby d0_11) rfl ?_
  show S_ p e below T44 m 12 #[vr s_, vi 7, vr d_, vi 7, vi 9, vi 7, vi 103] [(ii 7), (rr s_)] t
  refine ldC X44 hx hZ e44 f50 (v := (ii 101)) (by decide) (by decide) rfl rfl rfl (hb hby d0_12) ?_
  show S_ p e below T44 m 13 #[vr s_, vi 7, vr d_, vi 7, vi 9, vi 7, vi 103] [(ii 101)] t
  refine XS.istore X44.here hx rfl (hb hby d0_13) rfl (l' := #[vr s_, vi 7, vr d_, vi 7, vi 9, vi 7, vi 101]) rfl ?_
  show S_ p e below T44 m 15 #[vr s_, vi 7, vr d_, vi 7, vi 9, vi 7, vi 101] [] t
  refine XS.iload X44.here hx rfl (hb hby d0_15) rfl ?_
  show S_ p e below T44 m 17 #[vr s_, vi 7, vr d_, vi 7, vi 9, vi 7, vi 101] [(ii 101)] t
  refine XS.sipush X44.here hx rfl (hb hby d0_17) ?_
  show S_ p e below T44 m 20 #[vr s_, vi 7, vr d_, vi 7, vi 9, vi 7, vi 101] [(ii 255), (ii 101)] t
  refine yC X44.here hx rfl 20 26 rfl (hb hby d0_20) rfl rfl ?_
  show S_ p e below T44 m 26 #[vr s_, vi 7, vr d_, vi 7, vi 9, vi 7, vi 101] [] t
  refine XS.aloadN X44.here hx rfl (hb hby d0_26) rfl rfl ?_
  show S_ p e below T44 m 27 #[vr s_, vi 7, vr d_, vi 7, vi 9, vi 7, vi 101] [(rr d_)] t
  refine XS.iloadN X44.here hx rfl (hb hby d0_27) rfl ?_
  show S_ p e below T44 m 28 #[vr s_, vi 7, vr d_, vi 7, vi 9, vi 7, vi 101] [(ii 7), (rr d_)] t
  refine XS.iload X44.here hx rfl (hb hby d0_28) rfl ?_
  show S_ p e below T44 m 30 #[vr s_, vi 7, vr d_, vi 7, vi 9, vi 7, vi 101] [(ii 101), (ii 7), (rr d_)] t
  refine XS.i2b X44.here hx rfl (hb hby d0_30) rfl ?_
  exact k
 obtain ⟨T52, h52, X52, e52, W52, f55, o53, N54, c52⟩ := kstB X44 hx hZ e44 f48 (j := (7 : Int32)) (by decide) (by decide) 7 rfl (Nat.le_of_ble_eq_true rfl) c51 rfl rfl (hb hby d0_31) o45 N46 G2_
 have f56 : Arv Z h52 d_ kd_ .byte (9 : Int32) [(ii 117), (ii 110), (ii 99), (ii 104), (ii 97), (ii 110), (ii 103), (ii 101), (ii 0)] (ii 0) := f55
 have kp57 := kp49.wr W52 (Or.inl (List.mem_of_getElem? (i := 0) rfl))
 have c58 : Kt p e below T52 st0 (mkF m 31 #[vr s_, vi 8, vr d_, vi 8, vi 9, vi 8, vi 100] [(ii 100), (ii 8), (rr d_)]) := fun t k => by
  refine c52 t ?_
  show S_ p e below T52 m 32 #[vr s_, vi 7, vr d_, vi 7, vi 9, vi 7, vi 101] [] t
  refine XS.iinc X52.here hx rfl (hb hby d0_32) rfl (l' := #[vr s_, vi 8, vr d_, vi 7, vi 9, vi 7, vi 101]) rfl ?_
  show S_ p e below T52 m 35 #[vr s_, vi 8, vr d_, vi 7, vi 9, vi 7, vi 101] [] t
  refine XS.iinc X52.here hx rfl (hb hby d0_35) rfl (l' := #[vr s_, vi 8, vr d_, vi 8, vi 9, vi 7, vi 101]) rfl ?_
  show S_ p e below T52 m 38 #[vr s_, vi 8, vr d_, vi 8, vi 9, vi 7, vi 101] [] t
  refine XS.iinc X52.here hx rfl (hb hby d0_38) rfl (l' := #[vr s_, vi 8, vr d_, vi 8, vi 9, vi 8, vi 101]) rfl ?_
  show S_ p e below T52 m 41 #[vr s_, vi 8, vr d_, vi 8, vi 9, vi 8, vi 101] [] t
  refine yG X52.here hx rfl 41 3 rfl (hb hby d0_41) ?_
  show S_ p e below T52 m 3 #[vr s_, vi 8, vr d_, vi 8, vi 9, vi 8, vi 101] [] t
  refine XS.iload X52.here hx rfl (hb hby d0_3) rfl ?_
  show S_ p e below T52 m 5 #[vr s_, vi 8, vr d_, vi 8, vi 9, vi 8, vi 101] [(ii 8)] t
  refine XS.iload X52.here hx rfl (hb hby d0_5) rfl ?_
  show S_ p e below T52 m 7 #[vr s_, vi 8, vr d_, vi 8, vi 9, vi 8, vi 101] [(ii 9), (ii 8)] t
  refine XS.icmpNo X52.here hx rfl (hb hby d0_7) rfl rfl ?_
  show S_ p e below T52 m 10 #[vr s_, vi 8, vr d_, vi 8, vi 9, vi 8, vi 101] [] t
  refine XS.aloadN X52.here hx rfl (hb hby d0_10) rfl rfl ?_
  show S_ p e below T52 m 11 #[vr s_, vi 8, vr d_, vi 8, vi 9, vi 8, vi 101] [(rr s_)] t
  refine XS.iloadN X52.here hx rfl (hb hby d0_11) rfl ?_
  show S_ p e below T52 m 12 #[vr s_, vi 8, vr d_, vi 8, vi 9, vi 8, vi 101] [(ii 8), (rr s_)] t
  refine ldC X52 hx hZ e52 (f50.other W52 NE3_) (v := (ii 100)) (by decide) (by decide) rfl rfl rfl (hb hby d0_12) ?_
  show S_ p e below T52 m 13 #[vr s_, vi 8, vr d_, vi 8, vi 9, vi 8, vi 101] [(ii 100)] t
  refine XS.istore X52.here hx rfl (hb hby d0_13) rfl (l' := #[vr s_, vi 8, vr d_, vi 8, vi 9, vi 8, vi 100]) rfl ?_
  show S_ p e below T52 m 15 #[vr s_, vi 8, vr d_, vi 8, vi 9, vi 8, vi 100] [] t
  refine XS.iload X52.here hx rfl (hb hby d0_15) rfl ?_
  show S_ p e below T52 m 17 #[vr s_, vi 8, vr d_, vi 8, vi 9, vi 8, vi 100] [(ii 100)] t
  refine XS.sipush X52.here hx rfl (hb hby d0_17) ?_
  show S_ p e below T52 m 20 #[vr s_, vi 8, vr d_, vi 8, vi 9, vi 8, vi 100] [(ii 255), (ii 100)] t
  refine yC X52.here hx rfl 20 26 rfl (hb hby d0_20) rfl rfl ?_
  show S_ p e below T52 m 26 #[vr s_, vi 8, vr d_, vi 8, vi 9, vi 8, vi 100] [] t
  refine XS.aloadN X52.here hx rfl (hb hby d0_26) rfl rfl ?_
  show S_ p e below T52 m 27 #[vr s_, vi 8, vr d_, vi 8, vi 9, vi 8, vi 100] [(rr d_)] t
  refine XS.iloadN X52.here hx rfl (hb hby d0_27) rfl ?_
  show S_ p e below T52 m 28 #[vr s_, vi 8, vr d_, vi 8, vi 9, vi 8, vi 100] [(ii 8), (rr d_)] t
  refine XS.iload X52.here hx rfl (hb hby d0_28) rfl ?_
  show S_ p e below T52 m 30 #[vr s_, vi 8, vr d_, vi 8, vi 9, vi 8, vi 100] [(ii 100), (ii 8), (rr d_)] t
  refine XS.i2b X52.here hx rfl (hb hby d0_30) rfl ?_
  exact k
 obtain ⟨T59, h59, X59, e59, W59, f62, o60, N61, c59⟩ := kstB X52 hx hZ e52 f56 (j := (8 : Int32)) (by decide) (by decide) 8 rfl (Nat.le_of_ble_eq_true rfl) c58 rfl rfl (hb hby d0_31) o53 N54 G2_
 have f63 : Arv Z h59 d_ kd_ .byte (9 : Int32) [(ii 117), (ii 110), (ii 99), (ii 104), (ii 97), (ii 110), (ii 103), (ii 101), (ii 100)] (ii 0) := f62
 have kp64 := kp57.wr W59 (Or.inl (List.mem_of_getElem? (i := 0) rfl))
 obtain ⟨fs, hr, hrun, hended, hW, hsame⟩ := X59.leave (v := some (ii 9)) (fun h => by rw [Bd.returns] at h; cases h)
 refine ⟨_, _, c59 _ ?_, hrun, hended, _, _, rfl, ?_, ⟨_, rfl⟩, hW, hsame.mono (by decide) (by decide)⟩
 ·show S_ p e below T59 m 32 #[vr s_, vi 8, vr d_, vi 8, vi 9, vi 8, vi 100] [] _
  refine XS.iinc X59.here hx rfl (hb hby d0_32) rfl (l' := #[vr s_, vi 9, vr d_, vi 8, vi 9, vi 8, vi 100]) rfl ?_
  show S_ p e below T59 m 35 #[vr s_, vi 9, vr d_, vi 8, vi 9, vi 8, vi 100] [] _
  refine XS.iinc X59.here hx rfl (hb hby d0_35) rfl (l' := #[vr s_, vi 9, vr d_, vi 9, vi 9, vi 8, vi 100]) rfl ?_
  show S_ p e below T59 m 38 #[vr s_, vi 9, vr d_, vi 9, vi 9, vi 8, vi 100] [] _
  refine XS.iinc X59.here hx rfl (hb hby d0_38) rfl (l' := #[vr s_, vi 9, vr d_, vi 9, vi 9, vi 9, vi 100]) rfl ?_
  show S_ p e below T59 m 41 #[vr s_, vi 9, vr d_, vi 9, vi 9, vi 9, vi 100] [] _
  refine yG X59.here hx rfl 41 3 rfl (hb hby d0_41) ?_
  show S_ p e below T59 m 3 #[vr s_, vi 9, vr d_, vi 9, vi 9, vi 9, vi 100] [] _
  refine XS.iload X59.here hx rfl (hb hby d0_3) rfl ?_
  show S_ p e below T59 m 5 #[vr s_, vi 9, vr d_, vi 9, vi 9, vi 9, vi 100] [(ii 9)] _
  refine XS.iload X59.here hx rfl (hb hby d0_5) rfl ?_
  show S_ p e below T59 m 7 #[vr s_, vi 9, vr d_, vi 9, vi 9, vi 9, vi 100] [(ii 9), (ii 9)] _
  refine yC X59.here hx rfl 7 44 rfl (hb hby d0_7) rfl rfl ?_
  show S_ p e below T59 m 44 #[vr s_, vi 9, vr d_, vi 9, vi 9, vi 9, vi 100] [] _
  refine XS.iload X59.here hx rfl (hb hby d0_44) rfl ?_
  show S_ p e below T59 m 46 #[vr s_, vi 9, vr d_, vi 9, vi 9, vi 9, vi 100] [(ii 9)] _
  exact retOut X59 hx Bd.returns rfl (Or.inl ⟨rfl, Or.inl rfl, _, rfl⟩) (hb hby d0_46) hr
 ·show Q_cmp5_unchanged Z s_ ks_ d_ kd_ h0 n0 _ T59.heap _
  rw [e59]
  exact ⟨rfl, N61, kp64, f63⟩
theorem ef_cmp3_unchanged (m : MethodId) (s_ : Addr) : entryFrame m #[(rr s_), (ii 0), (ii 9)] 6 = mkF m 0 #[vr s_, vi 0, vi 9, u_, u_, u_] [] := by first | (simp [entryFrame, mkF, argsToLocals, Value.category]; done) | rfl
def Q_cmp3_unchanged (Z : State) (s_ : Addr) (ks_ : ClassId) (h0 : Heap) (n0 : Nat) (v : Option Value) (h : Heap) (L : List Loc) : Prop := ∃ (b_ : Addr), ∃ (kb_ : ClassId), v = some (rr b_) ∧ Fr n0 L ∧ Keep h0 h [] ∧ Arv Z h b_ kb_ .byte (9 : Int32) [(ii 117), (ii 110), (ii 99), (ii 104), (ii 97), (ii 110), (ii 103), (ii 101), (ii 100)] (ii 0) ∧ n0 ≤ b_ ∧ h0.size ≤ b_
set_option maxRecDepth 65536 in
set_option maxHeartbeats 40000000 in
theorem rm_cmp3_unchanged (l : Launch) (Z : State) (a0 : Array Value) (hw : HW Z a0) (ws : List Jvm.Cond) (s_ : Addr) (ks_ : ClassId) (h0 : Heap) (n0 : Nat) (O0 : Old Z n0 h0) (A0_ : Arv Z h0 s_ ks_ .char (9 : Int32) [(ii 117), (ii 110), (ii 99), (ii 104), (ii 97), (ii 110), (ii 103), (ii 101), (ii 100)] (ii 0)) :
  MFP l Z (⟨nm4, "compress", "([CII)[B"⟩ : MethodName) jdk_52_method_16_code 6 (some (.array .byte)) ({ frames := 1, cells := 1, slots := 9, locals := 18 } : Room) ws #[(rr s_), (ii 0), (ii 9)] h0 (Q_cmp3_unchanged Z s_ ks_ h0 n0) := by
 refine MetFree.of_bodySF (plainFor_of_name pn_java_lang_StringUTF16) hisR ?_
 intro p e s m args below meth c s₁ Bd hml0 hP hK
 obtain ⟨rfl, hZ, hh⟩ := hP
 have hx := Bd.exec
 have hby := Bd.bytes
 have hml : c.maxLocals = 6 := hml0
 have hown : s.vm.findClass nm4 = some m.cls := findClass_of_methodNamed Bd.named
 have hnm := (name_of_methodNamed Bd.named Bd.method).1
 have X0 : Stand p l e ({ frames := 1, cells := 1, slots := 9, locals := 18 } : Room) s m #[(rr s_), (ii 0), (ii 9)] below meth c s₁ [] 0 0 := Stand.of_body Bd
 have e0 : s₁.heap = h0 := by rw [← hh, Bd.state]; rfl
 have N0 := Fr.nil n0
 have kp0 : Keep h0 h0 [] := Keep.refl _ _
 have c0 : ∀ t, S_ p e below s₁ m 0 #[vr s_, vi 0, vi 9, u_, u_, u_] [] t → Steps p.tables e below (s₁.setTop (entryFrame m #[(rr s_), (ii 0), (ii 9)] 6)) t := fun t k => castTop (ef_cmp3_unchanged m s_) k
 generalize s₁.setTop (entryFrame m #[(rr s_), (ii 0), (ii 9)] 6) = st0 at c0 ⊢
 replace c0 : Kt p e below s₁ st0 (mkF m 0 #[vr s_, vi 0, vi 9, u_, u_, u_] []) := c0
 have c1 : Kt p e below s₁ st0 (mkF m 1 #[vr s_, vi 0, vi 9, u_, u_, u_] [(ii 9)]) := fun t k => by
  refine c0 t ?_
  show S_ p e below s₁ m 0 #[vr s_, vi 0, vi 9, u_, u_, u_] [] t
  refine XS.iloadN X0.here hx rfl (hb hby d1_0) rfl ?_
  exact k
 obtain ⟨b2, T2, h2, k2, z2, g2, X2, e2, E2, o3, A2, c2⟩ := knewP (aty := .byte) X0 hx hZ (w22 hw) e0 c1 rfl (hb hby d1_1) rfl (by decide) 9 (by decide) (by decide) (by decide) (by decide) O0
 have kp5 := kp0.ext E2
 have z6 := Nat.le_trans kp0.1 z2
 have f4 : Arv Z h2 b2 k2 .byte (9 : Int32) [(ii 0), (ii 0), (ii 0), (ii 0), (ii 0), (ii 0), (ii 0), (ii 0), (ii 0)] (ii 0) := A2.pad (pad_rep [] (ii 0) 9)
 have q7 := Nat.ne_of_lt (Nat.lt_of_lt_of_le A0_.lt z2)
 have c8 : Kt p e below T2 st0 (mkF m 9 #[vr s_, vi 0, vi 9, vr b2, u_, u_] [(ii 9), (ii 0), (rr b2), (ii 0), (rr s_)]) := fun t k => by
  refine c2 t ?_
  show S_ p e below T2 m 3 #[vr s_, vi 0, vi 9, u_, u_, u_] [(rr b2)] t
  refine XS.astoreN X2.here hx rfl (hb hby d1_3) rfl rfl (l' := #[vr s_, vi 0, vi 9, vr b2, u_, u_]) rfl ?_
  show S_ p e below T2 m 4 #[vr s_, vi 0, vi 9, vr b2, u_, u_] [] t
  refine XS.aloadN X2.here hx rfl (hb hby d1_4) rfl rfl ?_
  show S_ p e below T2 m 5 #[vr s_, vi 0, vi 9, vr b2, u_, u_] [(rr s_)] t
  refine XS.iloadN X2.here hx rfl (hb hby d1_5) rfl ?_
  show S_ p e below T2 m 6 #[vr s_, vi 0, vi 9, vr b2, u_, u_] [(ii 0), (rr s_)] t
  refine XS.aloadN X2.here hx rfl (hb hby d1_6) rfl rfl ?_
  show S_ p e below T2 m 7 #[vr s_, vi 0, vi 9, vr b2, u_, u_] [(rr b2), (ii 0), (rr s_)] t
  refine XS.iconst X2.here hx rfl (hb hby d1_7) ?_
  show S_ p e below T2 m 8 #[vr s_, vi 0, vi 9, vr b2, u_, u_] [(ii 0), (rr b2), (ii 0), (rr s_)] t
  refine XS.iloadN X2.here hx rfl (hb hby d1_8) rfl ?_
  exact k
 obtain ⟨_, T9, L9, X9, hQ9, c9⟩ := kstat X2 hx hZ hown (w23 hw) (w24 hw) (w20 hw) (w25 hw) (rm_cmp5_unchanged l Z a0 hw [] s_ ks_ b2 k2 h2 n0 o3 (A0_.ext E2) f4 g2 q7) e2 c8 hml pd_pACIABIIrI [(rr s_), (ii 0), (rr b2), (ii 0), (ii 9)] [] 0 (hb hby d1_9) rfl rfl rfl rfl rfl rfl
 obtain ⟨rfl, N10q, K11, p12⟩ := hQ9
 have N10 := Fr.app N0 N10q
 have o13 := o3.keep K11 (allS g2 all0)
 have kp14 := kp5.trans K11 (allS (Or.inr z6) all0)
 obtain ⟨fs, hr, hrun, hended, hW, hsame⟩ := X9.leave (v := some (rr b2)) (fun h => by rw [Bd.returns] at h; cases h)
 refine ⟨_, _, c9 _ ?_, hrun, hended, _, _, rfl, ?_, ⟨_, rfl⟩, hW, hsame.mono (by decide) (by decide)⟩
 ·show S_ p e below T9 m 12 #[vr s_, vi 0, vi 9, vr b2, u_, u_] [(ii 9)] _
  refine XS.istore X9.here hx rfl (hb hby d1_12) rfl (l' := #[vr s_, vi 0, vi 9, vr b2, vi 9, u_]) rfl ?_
  show S_ p e below T9 m 14 #[vr s_, vi 0, vi 9, vr b2, vi 9, u_] [] _
  refine XS.iload X9.here hx rfl (hb hby d1_14) rfl ?_
  show S_ p e below T9 m 16 #[vr s_, vi 0, vi 9, vr b2, vi 9, u_] [(ii 9)] _
  refine XS.iloadN X9.here hx rfl (hb hby d1_16) rfl ?_
  show S_ p e below T9 m 17 #[vr s_, vi 0, vi 9, vr b2, vi 9, u_] [(ii 9), (ii 9)] _
  refine yC X9.here hx rfl 17 57 rfl (hb hby d1_17) rfl rfl ?_
  show S_ p e below T9 m 57 #[vr s_, vi 0, vi 9, vr b2, vi 9, u_] [] _
  refine XS.aloadN X9.here hx rfl (hb hby d1_57) rfl rfl ?_
  show S_ p e below T9 m 58 #[vr s_, vi 0, vi 9, vr b2, vi 9, u_] [(rr b2)] _
  exact retOut X9 hx Bd.returns rfl (Or.inr (Or.inr (Or.inr (Or.inr ⟨rfl, rfl, rfl⟩)))) (hb hby d1_58) hr
 ·show Q_cmp3_unchanged Z s_ ks_ h0 n0 _ T9.heap _
  exact ⟨b2, k2, rfl, N10, kp14, p12, g2, z6⟩
theorem ef_codl_9 (m : MethodId) (s_ : Addr) : entryFrame m #[(rr s_), (ii 9)] 2 = mkF m 0 #[vr s_, vi 9] [] := by first | (simp [entryFrame, mkF, argsToLocals, Value.category]; done) | rfl
def Q_codl_9 (Z : State) (s_ : Addr) (ks_ : ClassId) (vs_ : List Value) (h0 : Heap) (n0 : Nat) (v : Option Value) (h : Heap) (L : List Loc) : Prop := v = some (ii 0) ∧ Fr n0 L ∧ h = h0
set_option maxRecDepth 65536 in
set_option maxHeartbeats 40000000 in
theorem rm_codl_9 (l : Launch) (Z : State) (a0 : Array Value) (hw : HW Z a0) (ws : List Jvm.Cond) (s_ : Addr) (ks_ : ClassId) (vs_ : List Value) (h0 : Heap) (n0 : Nat) (O0 : Old Z n0 h0) (A0_ : Arv Z h0 s_ ks_ .byte (9 : Int32) vs_ (ii 0)) :
  MFP l Z (⟨nm4, "coderFromArrayLen", "([BI)B"⟩ : MethodName) jdk_52_method_15_code 2 (some .byte) ({ frames := 0, cells := 0, slots := 0, locals := 0 } : Room) ws #[(rr s_), (ii 9)] h0 (Q_codl_9 Z s_ ks_ vs_ h0 n0) := by
 refine MetFree.of_bodySF (plainFor_of_name pn_java_lang_StringUTF16) hisR ?_
 intro p e s m args below meth c s₁ Bd hml0 hP hK
 obtain ⟨rfl, hZ, hh⟩ := hP
 have hx := Bd.exec
 have hby := Bd.bytes
 have hml : c.maxLocals = 2 := hml0
 have hown : s.vm.findClass nm4 = some m.cls := findClass_of_methodNamed Bd.named
 have hnm := (name_of_methodNamed Bd.named Bd.method).1
 have X0 : Stand p l e ({ frames := 0, cells := 0, slots := 0, locals := 0 } : Room) s m #[(rr s_), (ii 9)] below meth c s₁ [] 0 0 := Stand.of_body Bd
 have e0 : s₁.heap = h0 := by rw [← hh, Bd.state]; rfl
 have N0 := Fr.nil n0
 have kp0 : Keep h0 h0 [] := Keep.refl _ _
 have c0 : ∀ t, S_ p e below s₁ m 0 #[vr s_, vi 9] [] t → Steps p.tables e below (s₁.setTop (entryFrame m #[(rr s_), (ii 9)] 2)) t := fun t k => castTop (ef_codl_9 m s_) k
 generalize s₁.setTop (entryFrame m #[(rr s_), (ii 9)] 2) = st0 at c0 ⊢
 replace c0 : Kt p e below s₁ st0 (mkF m 0 #[vr s_, vi 9] []) := c0
 obtain ⟨fs, hr, hrun, hended, hW, hsame⟩ := X0.leave (v := some (ii 0)) (fun h => by rw [Bd.returns] at h; cases h)
 refine ⟨_, _, c0 _ ?_, hrun, hended, _, _, rfl, ?_, ⟨_, rfl⟩, hW, hsame.mono (by decide) (by decide)⟩
 ·show S_ p e below s₁ m 0 #[vr s_, vi 9] [] _
  refine XS.iloadN X0.here hx rfl (hb hby d2_0) rfl ?_
  show S_ p e below s₁ m 1 #[vr s_, vi 9] [(ii 9)] _
  refine XS.aloadN X0.here hx rfl (hb hby d2_1) rfl rfl ?_
  show S_ p e below s₁ m 2 #[vr s_, vi 9] [(rr s_), (ii 9)] _
  refine ldLen X0 hx hZ e0 A0_ rfl rfl (hb hby d2_2) ?_
  show S_ p e below s₁ m 3 #[vr s_, vi 9] [(ii 9), (ii 9)] _
  refine XS.isub X0.here hx rfl (hb hby d2_3) rfl ?_
  show S_ p e below s₁ m 4 #[vr s_, vi 9] [(ii 0)] _
  refine XS.bipush X0.here hx rfl (hb hby d2_4) ?_
  show S_ p e below s₁ m 6 #[vr s_, vi 9] [(ii 31), (ii 0)] _
  refine XS.iushr X0.here hx rfl (hb hby d2_6) rfl ?_
  show S_ p e below s₁ m 7 #[vr s_, vi 9] [(ii 0)] _
  refine XS.i2b X0.here hx rfl (hb hby d2_7) rfl ?_
  show S_ p e below s₁ m 8 #[vr s_, vi 9] [(ii 0)] _
  exact retN X0 hx (t := .byte) Bd.returns (by simp) (hb hby d2_8) hr
 ·show Q_codl_9 Z s_ ks_ vs_ h0 n0 _ s₁.heap _
  rw [e0]
  exact ⟨rfl, N0, rfl⟩
theorem ef_str4_unchanged (m : MethodId) (x_ : Addr) (s_ : Addr) : entryFrame m #[(rr x_), (rr s_), (ii 0), (ii 9), .null] 6 = mkF m 0 #[vr x_, vr s_, vi 0, vi 9, .val .null, u_] [] := by first | (simp [entryFrame, mkF, argsToLocals, Value.category]; done) | rfl
def Q_str4_unchanged (Z : State) (x_ : Addr) (s_ : Addr) (ks_ : ClassId) (z_ : Int32) (h0 : Heap) (n0 : Nat) (v : Option Value) (h : Heap) (L : List Loc) : Prop := v = none ∧ Fr n0 L ∧ Keep h0 h [x_] ∧ Exa Z h x_ nm1 ∧ Fld Z h x_ nm1 "coder" "B" (ii 0) ∧ ∃ (b_ : Addr), ∃ (kb_ : ClassId), Fld Z h x_ nm1 "value" "[B" (rr b_) ∧ Arv Z h b_ kb_ .byte (9 : Int32) [(ii 117), (ii 110), (ii 99), (ii 104), (ii 97), (ii 110), (ii 103), (ii 101), (ii 100)] (ii 0) ∧ n0 ≤ b_ ∧ h0.size ≤ b_
set_option maxRecDepth 65536 in
set_option maxHeartbeats 40000000 in
theorem rm_str4_unchanged (l : Launch) (Z : State) (a0 : Array Value) (hw : HW Z a0) (ws : List Jvm.Cond) (x_ : Addr) (s_ : Addr) (ks_ : ClassId) (z_ : Int32) (h0 : Heap) (n0 : Nat) (O0 : Old Z n0 h0) (E0_ : Exa Z h0 x_ nm1) (F1_ : Fld Z h0 x_ nm1 "value" "[B" .null) (F2_ : Fld Z h0 x_ nm1 "coder" "B" (ii 0)) (G3_ : n0 ≤ x_) (A4_ : Arv Z h0 s_ ks_ .char (9 : Int32) [(ii 117), (ii 110), (ii 99), (ii 104), (ii 97), (ii 110), (ii 103), (ii 101), (ii 100)] (ii 0)) (ZS5_ : Sta Z Z.heap nm1 "COMPACT_STRINGS" "Z" (.int z_)) (hz_ : ¬ (z_ = (0 : Int32))) :
  MFP l Z (⟨nm1, "<init>", "([CIILjava/lang/Void;)V"⟩ : MethodName) jdk_42_method_149_code 6 none ({ frames := 2, cells := 1, slots := 9, locals := 35 } : Room) ws #[(rr x_), (rr s_), (ii 0), (ii 9), .null] h0 (Q_str4_unchanged Z x_ s_ ks_ z_ h0 n0) := by
 refine MetFree.of_bodySF (plainFor_of_name pn_java_lang_String) hisR ?_
 intro p e s m args below meth c s₁ Bd hml0 hP hK
 obtain ⟨rfl, hZ, hh⟩ := hP
 have hx := Bd.exec
 have hby := Bd.bytes
 have hml : c.maxLocals = 6 := hml0
 have hown : s.vm.findClass nm1 = some m.cls := findClass_of_methodNamed Bd.named
 have hnm := (name_of_methodNamed Bd.named Bd.method).1
 have X0 : Stand p l e ({ frames := 2, cells := 1, slots := 9, locals := 35 } : Room) s m #[(rr x_), (rr s_), (ii 0), (ii 9), .null] below meth c s₁ [] 0 0 := Stand.of_body Bd
 have e0 : s₁.heap = h0 := by rw [← hh, Bd.state]; rfl
 have N0 := Fr.nil n0
 have kp0 : Keep h0 h0 [x_] := Keep.refl _ _
 have c0 : ∀ t, S_ p e below s₁ m 0 #[vr x_, vr s_, vi 0, vi 9, .val .null, u_] [] t → Steps p.tables e below (s₁.setTop (entryFrame m #[(rr x_), (rr s_), (ii 0), (ii 9), .null] 6)) t := fun t k => castTop (ef_str4_unchanged m x_ s_) k
 generalize s₁.setTop (entryFrame m #[(rr x_), (rr s_), (ii 0), (ii 9), .null] 6) = st0 at c0 ⊢
 replace c0 : Kt p e below s₁ st0 (mkF m 0 #[vr x_, vr s_, vi 0, vi 9, .val .null, u_] []) := c0
 have c1 : Kt p e below s₁ st0 (mkF m 1 #[vr x_, vr s_, vi 0, vi 9, .val .null, u_] [(rr x_)]) := fun t k => by
  refine c0 t ?_
  show S_ p e below s₁ m 0 #[vr x_, vr s_, vi 0, vi 9, .val .null, u_] [] t
  refine XS.aloadN X0.here hx rfl (hb hby d3_0) rfl rfl ?_
  exact k
 obtain ⟨T2, X2, e2, c2⟩ := kinit X0 hx hZ hown (w14 hw) (w15 hw) (w16 hw) e0 c1 rfl hml rfl rfl (hb hby d3_1) 0 (own_w rfl) (by decide) (by decide)
 have c3 : Kt p e below T2 st0 (mkF m 27 #[vr x_, vr s_, vi 0, vi 9, .val .null, u_] []) := fun t k => by
  refine c2 t ?_
  show S_ p e below T2 m 4 #[vr x_, vr s_, vi 0, vi 9, .val .null, u_] [] t
  refine XS.iloadN X2.here hx rfl (hb hby d3_4) rfl ?_
  show S_ p e below T2 m 5 #[vr x_, vr s_, vi 0, vi 9, .val .null, u_] [(ii 9)] t
  refine yI X2.here hx rfl 5 27 rfl (hb hby d3_5) rfl rfl ?_
  exact k
 obtain ⟨T4, X4, e4, c4⟩ := kgetS X2 hx hZ hown (host := "") (Or.inl (w17 hw)) Via.refl e2 (ZS5_.ext O0.2) c3 rfl (hb hby d3_27)
 have c5 : Kt p e below T4 st0 (mkF m 36 #[vr x_, vr s_, vi 0, vi 9, .val .null, u_] [(ii 9), (ii 0), (rr s_)]) := fun t k => by
  refine c4 t ?_
  show S_ p e below T4 m 30 #[vr x_, vr s_, vi 0, vi 9, .val .null, u_] [(.int z_)] t
  refine XS.ifNo X4.here hx rfl (hb hby d3_30) rfl ((if0 _ _).trans (feq hz_).1) ?_
  show S_ p e below T4 m 33 #[vr x_, vr s_, vi 0, vi 9, .val .null, u_] [] t
  refine XS.aloadN X4.here hx rfl (hb hby d3_33) rfl rfl ?_
  show S_ p e below T4 m 34 #[vr x_, vr s_, vi 0, vi 9, .val .null, u_] [(rr s_)] t
  refine XS.iloadN X4.here hx rfl (hb hby d3_34) rfl ?_
  show S_ p e below T4 m 35 #[vr x_, vr s_, vi 0, vi 9, .val .null, u_] [(ii 0), (rr s_)] t
  refine XS.iloadN X4.here hx rfl (hb hby d3_35) rfl ?_
  exact k
 obtain ⟨_, T6, L6, X6, hQ6, c6⟩ := kstat X4 hx hZ hown (w18 hw) (w19 hw) (w20 hw) (w21 hw) (rm_cmp3_unchanged l Z a0 hw [] s_ ks_ h0 n0 O0 A4_) e4 c5 hml pd_pACIIrAB [(rr s_), (ii 0), (ii 9)] [] 0 (hb hby d3_36) rfl rfl rfl rfl rfl rfl
 obtain ⟨b7, k8, rfl, N9q, K10, p11, p12, p13⟩ := hQ6
 have N9 := Fr.app N0 N9q
 have o14 := O0.keep K10 all0
 have kp15 := kp0.trans K10 all0
 have z16 := Nat.le_trans kp0.1 p13
 have g17 := Nat.le_trans (Nat.le_trans (Nat.le_of_eq O0.1.symm) O0.2.1) p13
 have c18 : Kt p e below T6 st0 (mkF m 45 #[vr x_, vr s_, vi 0, vi 9, .val .null, vr b7] [(ii 9), (rr b7), (rr x_)]) := fun t k => by
  refine c6 t ?_
  show S_ p e below T6 m 39 #[vr x_, vr s_, vi 0, vi 9, .val .null, u_] [(rr b7)] t
  refine XS.astore X6.here hx rfl (hb hby d3_39) rfl rfl (l' := #[vr x_, vr s_, vi 0, vi 9, .val .null, vr b7]) rfl ?_
  show S_ p e below T6 m 41 #[vr x_, vr s_, vi 0, vi 9, .val .null, vr b7] [] t
  refine XS.aloadN X6.here hx rfl (hb hby d3_41) rfl rfl ?_
  show S_ p e below T6 m 42 #[vr x_, vr s_, vi 0, vi 9, .val .null, vr b7] [(rr x_)] t
  refine XS.aload X6.here hx rfl (hb hby d3_42) rfl rfl ?_
  show S_ p e below T6 m 44 #[vr x_, vr s_, vi 0, vi 9, .val .null, vr b7] [(rr b7), (rr x_)] t
  refine XS.iloadN X6.here hx rfl (hb hby d3_44) rfl ?_
  exact k
 obtain ⟨_, T19, L19, X19, hQ19, c19⟩ := kstat X6 hx hZ hown (w26 hw) (w27 hw) (w20 hw) (w28 hw) (rm_codl_9 l Z a0 hw [] b7 k8 [(ii 117), (ii 110), (ii 99), (ii 104), (ii 97), (ii 110), (ii 103), (ii 101), (ii 100)] T6.heap n0 o14 p11) rfl c18 hml pd_pABIrB [(rr b7), (ii 9)] [(rr x_)] 1 (hb hby d3_45) rfl rfl rfl rfl rfl rfl
 obtain ⟨rfl, N20q, K21⟩ := hQ19
 have N20 := Fr.app N9 N20q
 obtain ⟨T22, h22, X22, e22, W22, f23, o25, N24, c22⟩ := kput X19 hx hZ .byte hown (host := "") (Or.inl (w29 hw)) Via.refl K21 (F2_.keep K10 nin0) (E0_.keep K10) (Or.inr ⟨(w30 hw), rfl, hnm⟩) (w5 hw) c19 rfl rfl (hb hby d3_48) (by decide) rfl rfl o14 N20 G3_
 have kp26 := kp15.wr W22 (Or.inl (List.mem_of_getElem? (i := 0) rfl))
 have f27 := (F1_.keep K10 nin0).other W22 (Or.inr (slot_ne (Or.inr (w32 hw)) (Or.inr (w30 hw)) (by decide) (t := (.array .byte)) (t' := .byte) (by decide) (by decide)))
 have c28 : Kt p e below T22 st0 (mkF m 54 #[vr x_, vr s_, vi 0, vi 9, .val .null, vr b7] [(rr b7), (rr x_)]) := fun t k => by
  refine c22 t ?_
  show S_ p e below T22 m 51 #[vr x_, vr s_, vi 0, vi 9, .val .null, vr b7] [] t
  refine XS.aloadN X22.here hx rfl (hb hby d3_51) rfl rfl ?_
  show S_ p e below T22 m 52 #[vr x_, vr s_, vi 0, vi 9, .val .null, vr b7] [(rr x_)] t
  refine XS.aload X22.here hx rfl (hb hby d3_52) rfl rfl ?_
  exact k
 obtain ⟨T29, h29, X29, e29, W29, f30, o32, N31, c29⟩ := kput X22 hx hZ (.array .byte) hown (host := "") (Or.inl (w31 hw)) Via.refl e22 f27 ((E0_.keep K10).wr W22) (Or.inr ⟨(w32 hw), rfl, hnm⟩) (w5 hw) c28 rfl rfl (hb hby d3_54) (by decide) rfl rfl o25 N24 G3_
 have kp33 := kp26.wr W29 (Or.inl (List.mem_of_getElem? (i := 0) rfl))
 have f34 := f23.other W29 (Or.inr (slot_ne (Or.inr (w30 hw)) (Or.inr (w32 hw)) (by decide) (t := .byte) (t' := (.array .byte)) (by decide) (by decide)))
 have q35 := Ne.symm (Nat.ne_of_lt (Nat.lt_of_lt_of_le E0_.lt p13))
 obtain ⟨fs, hr, hrun, hended, hW, hsame⟩ := X29.leave (v := none) (fun _ => rfl)
 refine ⟨_, _, c29 _ ?_, hrun, hended, _, _, rfl, ?_, ⟨_, rfl⟩, hW, hsame.mono (by decide) (by decide)⟩
 ·show S_ p e below T29 m 57 #[vr x_, vr s_, vi 0, vi 9, .val .null, vr b7] [] _
  exact X29.returnOut hx Bd.returns (hb hby d3_57) hr
 ·show Q_str4_unchanged Z x_ s_ ks_ z_ h0 n0 _ T29.heap _
  rw [e29]
  exact ⟨rfl, N31, kp33, (((E0_.keep K10).wr W22).wr W29), f34, b7, k8, f30, ((p11.other W22 q35).other W29 q35), g17, z16⟩
theorem ef_str1_unchanged (m : MethodId) (x_ : Addr) (s_ : Addr) : entryFrame m #[(rr x_), (rr s_)] 2 = mkF m 0 #[vr x_, vr s_] [] := by first | (simp [entryFrame, mkF, argsToLocals, Value.category]; done) | rfl
def Q_str1_unchanged (Z : State) (x_ : Addr) (s_ : Addr) (ks_ : ClassId) (z_ : Int32) (h0 : Heap) (n0 : Nat) (v : Option Value) (h : Heap) (L : List Loc) : Prop := v = none ∧ Fr n0 L ∧ Keep h0 h [x_] ∧ Exa Z h x_ nm1 ∧ Fld Z h x_ nm1 "coder" "B" (ii 0) ∧ ∃ (b_ : Addr), ∃ (kb_ : ClassId), Fld Z h x_ nm1 "value" "[B" (rr b_) ∧ Arv Z h b_ kb_ .byte (9 : Int32) [(ii 117), (ii 110), (ii 99), (ii 104), (ii 97), (ii 110), (ii 103), (ii 101), (ii 100)] (ii 0) ∧ n0 ≤ b_ ∧ h0.size ≤ b_
set_option maxRecDepth 65536 in
set_option maxHeartbeats 40000000 in
theorem rm_str1_unchanged (l : Launch) (Z : State) (a0 : Array Value) (hw : HW Z a0) (ws : List Jvm.Cond) (x_ : Addr) (s_ : Addr) (ks_ : ClassId) (z_ : Int32) (h0 : Heap) (n0 : Nat) (O0 : Old Z n0 h0) (E0_ : Exa Z h0 x_ nm1) (F1_ : Fld Z h0 x_ nm1 "value" "[B" .null) (F2_ : Fld Z h0 x_ nm1 "coder" "B" (ii 0)) (G3_ : n0 ≤ x_) (A4_ : Arv Z h0 s_ ks_ .char (9 : Int32) [(ii 117), (ii 110), (ii 99), (ii 104), (ii 97), (ii 110), (ii 103), (ii 101), (ii 100)] (ii 0)) (ZS5_ : Sta Z Z.heap nm1 "COMPACT_STRINGS" "Z" (.int z_)) (hz_ : ¬ (z_ = (0 : Int32))) :
  MFP l Z (⟨nm1, "<init>", "([C)V"⟩ : MethodName) jdk_42_method_3_code 2 none ({ frames := 3, cells := 1, slots := 9, locals := 52 } : Room) ws #[(rr x_), (rr s_)] h0 (Q_str1_unchanged Z x_ s_ ks_ z_ h0 n0) := by
 refine MetFree.of_bodySF (plainFor_of_name pn_java_lang_String) hisR ?_
 intro p e s m args below meth c s₁ Bd hml0 hP hK
 obtain ⟨rfl, hZ, hh⟩ := hP
 have hx := Bd.exec
 have hby := Bd.bytes
 have hml : c.maxLocals = 2 := hml0
 have hown : s.vm.findClass nm1 = some m.cls := findClass_of_methodNamed Bd.named
 have hnm := (name_of_methodNamed Bd.named Bd.method).1
 have X0 : Stand p l e ({ frames := 3, cells := 1, slots := 9, locals := 52 } : Room) s m #[(rr x_), (rr s_)] below meth c s₁ [] 0 0 := Stand.of_body Bd
 have e0 : s₁.heap = h0 := by rw [← hh, Bd.state]; rfl
 have N0 := Fr.nil n0
 have kp0 : Keep h0 h0 [x_] := Keep.refl _ _
 have c0 : ∀ t, S_ p e below s₁ m 0 #[vr x_, vr s_] [] t → Steps p.tables e below (s₁.setTop (entryFrame m #[(rr x_), (rr s_)] 2)) t := fun t k => castTop (ef_str1_unchanged m x_ s_) k
 generalize s₁.setTop (entryFrame m #[(rr x_), (rr s_)] 2) = st0 at c0 ⊢
 replace c0 : Kt p e below s₁ st0 (mkF m 0 #[vr x_, vr s_] []) := c0
 have c1 : Kt p e below s₁ st0 (mkF m 6 #[vr x_, vr s_] [.null, (ii 9), (ii 0), (rr s_), (rr x_)]) := fun t k => by
  refine c0 t ?_
  show S_ p e below s₁ m 0 #[vr x_, vr s_] [] t
  refine XS.aloadN X0.here hx rfl (hb hby d4_0) rfl rfl ?_
  show S_ p e below s₁ m 1 #[vr x_, vr s_] [(rr x_)] t
  refine XS.aloadN X0.here hx rfl (hb hby d4_1) rfl rfl ?_
  show S_ p e below s₁ m 2 #[vr x_, vr s_] [(rr s_), (rr x_)] t
  refine XS.iconst X0.here hx rfl (hb hby d4_2) ?_
  show S_ p e below s₁ m 3 #[vr x_, vr s_] [(ii 0), (rr s_), (rr x_)] t
  refine XS.aloadN X0.here hx rfl (hb hby d4_3) rfl rfl ?_
  show S_ p e below s₁ m 4 #[vr x_, vr s_] [(rr s_), (ii 0), (rr s_), (rr x_)] t
  refine ldLen X0 hx hZ e0 A4_ rfl rfl (hb hby d4_4) ?_
  show S_ p e below s₁ m 5 #[vr x_, vr s_] [(ii 9), (ii 0), (rr s_), (rr x_)] t
  refine XS.aconstNull X0.here hx rfl (hb hby d4_5) ?_
  exact k
 obtain ⟨_, T2, L2, X2, hQ2, c2⟩ := kspec X0 hx hZ hown (w10 hw) (w11 hw) (w6 hw) (w13 hw) (rm_str4_unchanged l Z a0 hw [] x_ s_ ks_ z_ h0 n0 O0 E0_ F1_ F2_ G3_ A4_ ZS5_ hz_) e0 c1 hml pd_pACIILjava_lang_Void_rV x_ [(rr s_), (ii 0), (ii 9), .null] [] 0 (hb hby d4_6) rfl rfl rfl rfl rfl rfl
 obtain ⟨rfl, N3q, K4, p5, p6, b7, k8, p9, p10, p11, p12⟩ := hQ2
 have N3 := Fr.app N0 N3q
 have o13 := O0.keep K4 (allS G3_ all0)
 have kp14 := kp0.trans K4 (allS (Or.inl (List.mem_of_getElem? (i := 0) rfl)) all0)
 have z15 := Nat.le_trans kp0.1 p12
 have g16 := Nat.le_trans (Nat.le_trans (Nat.le_of_eq O0.1.symm) O0.2.1) p12
 obtain ⟨fs, hr, hrun, hended, hW, hsame⟩ := X2.leave (v := none) (fun _ => rfl)
 refine ⟨_, _, c2 _ ?_, hrun, hended, _, _, rfl, ?_, ⟨_, rfl⟩, hW, hsame.mono (by decide) (by decide)⟩
 ·show S_ p e below T2 m 9 #[vr x_, vr s_] [] _
  exact X2.returnOut hx Bd.returns (hb hby d4_9) hr
 ·show Q_str1_unchanged Z x_ s_ ks_ z_ h0 n0 _ T2.heap _
  exact ⟨rfl, N3, kp14, p5, p6, b7, k8, p9, p10, g16, z15⟩
theorem ef_cmp5_error (m : MethodId) (s_ : Addr) (d_ : Addr) : entryFrame m #[(rr s_), (ii 0), (rr d_), (ii 0), (ii 5)] 7 = mkF m 0 #[vr s_, vi 0, vr d_, vi 0, vi 5, u_, u_] [] := by first | (simp [entryFrame, mkF, argsToLocals, Value.category]; done) | rfl
def Q_cmp5_error (Z : State) (s_ : Addr) (ks_ : ClassId) (d_ : Addr) (kd_ : ClassId) (h0 : Heap) (n0 : Nat) (v : Option Value) (h : Heap) (L : List Loc) : Prop := v = some (ii 5) ∧ Fr n0 L ∧ Keep h0 h [d_] ∧ Arv Z h d_ kd_ .byte (5 : Int32) [(ii 101), (ii 114), (ii 114), (ii 111), (ii 114)] (ii 0)
set_option maxRecDepth 65536 in
set_option maxHeartbeats 40000000 in
theorem rm_cmp5_error (l : Launch) (Z : State) (a0 : Array Value) (hw : HW Z a0) (ws : List Jvm.Cond) (s_ : Addr) (ks_ : ClassId) (d_ : Addr) (kd_ : ClassId) (h0 : Heap) (n0 : Nat) (O0 : Old Z n0 h0) (A0_ : Arv Z h0 s_ ks_ .char (5 : Int32) [(ii 101), (ii 114), (ii 114), (ii 111), (ii 114)] (ii 0)) (A1_ : Arv Z h0 d_ kd_ .byte (5 : Int32) [(ii 0), (ii 0), (ii 0), (ii 0), (ii 0)] (ii 0)) (G2_ : n0 ≤ d_) (NE3_ : s_ ≠ d_) :
  MFP l Z (⟨nm4, "compress", "([CI[BII)I"⟩ : MethodName) jdk_52_method_21_code 7 (some .int) ({ frames := 0, cells := 0, slots := 0, locals := 0 } : Room) ws #[(rr s_), (ii 0), (rr d_), (ii 0), (ii 5)] h0 (Q_cmp5_error Z s_ ks_ d_ kd_ h0 n0) := by
 refine MetFree.of_bodySF (plainFor_of_name pn_java_lang_StringUTF16) hisR ?_
 intro p e s m args below meth c s₁ Bd hml0 hP hK
 obtain ⟨rfl, hZ, hh⟩ := hP
 have hx := Bd.exec
 have hby := Bd.bytes
 have hml : c.maxLocals = 7 := hml0
 have hown : s.vm.findClass nm4 = some m.cls := findClass_of_methodNamed Bd.named
 have hnm := (name_of_methodNamed Bd.named Bd.method).1
 have X0 : Stand p l e ({ frames := 0, cells := 0, slots := 0, locals := 0 } : Room) s m #[(rr s_), (ii 0), (rr d_), (ii 0), (ii 5)] below meth c s₁ [] 0 0 := Stand.of_body Bd
 have e0 : s₁.heap = h0 := by rw [← hh, Bd.state]; rfl
 have N0 := Fr.nil n0
 have kp0 : Keep h0 h0 [d_] := Keep.refl _ _
 have c0 : ∀ t, S_ p e below s₁ m 0 #[vr s_, vi 0, vr d_, vi 0, vi 5, u_, u_] [] t → Steps p.tables e below (s₁.setTop (entryFrame m #[(rr s_), (ii 0), (rr d_), (ii 0), (ii 5)] 7)) t := fun t k => castTop (ef_cmp5_error m s_ d_) k
 generalize s₁.setTop (entryFrame m #[(rr s_), (ii 0), (rr d_), (ii 0), (ii 5)] 7) = st0 at c0 ⊢
 replace c0 : Kt p e below s₁ st0 (mkF m 0 #[vr s_, vi 0, vr d_, vi 0, vi 5, u_, u_] []) := c0
 have c1 : Kt p e below s₁ st0 (mkF m 31 #[vr s_, vi 0, vr d_, vi 0, vi 5, vi 0, vi 101] [(ii 101), (ii 0), (rr d_)]) := fun t k => by
  refine c0 t ?_
  show S_ p e below s₁ m 0 #[vr s_, vi 0, vr d_, vi 0, vi 5, u_, u_] [] t
  refine XS.iconst X0.here hx rfl (hb hby d0_0) ?_
  show S_ p e below s₁ m 1 #[vr s_, vi 0, vr d_, vi 0, vi 5, u_, u_] [(ii 0)] t
  refine XS.istore X0.here hx rfl (hb hby d0_1) rfl (l' := #[vr s_, vi 0, vr d_, vi 0, vi 5, vi 0, u_]) rfl ?_
  show S_ p e below s₁ m 3 #[vr s_, vi 0, vr d_, vi 0, vi 5, vi 0, u_] [] t
  refine XS.iload X0.here hx rfl (hb hby d0_3) rfl ?_
  show S_ p e below s₁ m 5 #[vr s_, vi 0, vr d_, vi 0, vi 5, vi 0, u_] [(ii 0)] t
  refine XS.iload X0.here hx rfl (hb hby d0_5) rfl ?_
  show S_ p e below s₁ m 7 #[vr s_, vi 0, vr d_, vi 0, vi 5, vi 0, u_] [(ii 5), (ii 0)] t
  refine XS.icmpNo X0.here hx rfl (hb hby d0_7) rfl rfl ?_
  show S_ p e below s₁ m 10 #[vr s_, vi 0, vr d_, vi 0, vi 5, vi 0, u_] [] t
  refine XS.aloadN X0.here hx rfl (hb hby d0_10) rfl rfl ?_
  show S_ p e below s₁ m 11 #[vr s_, vi 0, vr d_, vi 0, vi 5, vi 0, u_] [(rr s_)] t
  refine XS.iloadN X0.here hx rfl (hb hby d0_11) rfl ?_
  show S_ p e below s₁ m 12 #[vr s_, vi 0, vr d_, vi 0, vi 5, vi 0, u_] [(ii 0), (rr s_)] t
  refine ldC X0 hx hZ e0 A0_ (v := (ii 101)) (by decide) (by decide) rfl rfl rfl (hb hby d0_12) ?_
  show S_ p e below s₁ m 13 #[vr s_, vi 0, vr d_, vi 0, vi 5, vi 0, u_] [(ii 101)] t
  refine XS.istore X0.here hx rfl (hb hby d0_13) rfl (l' := #[vr s_, vi 0, vr d_, vi 0, vi 5, vi 0, vi 101]) rfl ?_
  show S_ p e below s₁ m 15 #[vr s_, vi 0, vr d_, vi 0, vi 5, vi 0, vi 101] [] t
  refine XS.iload X0.here hx rfl (hb hby d0_15) rfl ?_
  show S_ p e below s₁ m 17 #[vr s_, vi 0, vr d_, vi 0, vi 5, vi 0, vi 101] [(ii 101)] t
  refine XS.sipush X0.here hx rfl (hb hby d0_17) ?_
  show S_ p e below s₁ m 20 #[vr s_, vi 0, vr d_, vi 0, vi 5, vi 0, vi 101] [(ii 255), (ii 101)] t
  refine yC X0.here hx rfl 20 26 rfl (hb hby d0_20) rfl rfl ?_
  show S_ p e below s₁ m 26 #[vr s_, vi 0, vr d_, vi 0, vi 5, vi 0, vi 101] [] t
  refine XS.aloadN X0.here hx rfl (hb hby d0_26) rfl rfl ?_
  show S_ p e below s₁ m 27 #[vr s_, vi 0, vr d_, vi 0, vi 5, vi 0, vi 101] [(rr d_)] t
  refine XS.iloadN X0.here hx rfl (hb hby d0_27) rfl ?_
  show S_ p e below s₁ m 28 #[vr s_, vi 0, vr d_, vi 0, vi 5, vi 0, vi 101] [(ii 0), (rr d_)] t
  refine XS.iload X0.here hx rfl (hb hby d0_28) rfl ?_
  show S_ p e below s₁ m 30 #[vr s_, vi 0, vr d_, vi 0, vi 5, vi 0, vi 101] [(ii 101), (ii 0), (rr d_)] t
  refine XS.i2b X0.here hx rfl (hb hby d0_30) rfl ?_
  exact k
 obtain ⟨T2, h2, X2, e2, W2, f5, o3, N4, c2⟩ := kstB X0 hx hZ e0 A1_ (j := (0 : Int32)) (by decide) (by decide) 0 rfl (Nat.le_of_ble_eq_true rfl) c1 rfl rfl (hb hby d0_31) O0 N0 G2_
 have f6 : Arv Z h2 d_ kd_ .byte (5 : Int32) [(ii 101), (ii 0), (ii 0), (ii 0), (ii 0)] (ii 0) := f5
 have kp7 := kp0.wr W2 (Or.inl (List.mem_of_getElem? (i := 0) rfl))
 have c8 : Kt p e below T2 st0 (mkF m 31 #[vr s_, vi 1, vr d_, vi 1, vi 5, vi 1, vi 114] [(ii 114), (ii 1), (rr d_)]) := fun t k => by
  refine c2 t ?_
  show S_ p e below T2 m 32 #[vr s_, vi 0, vr d_, vi 0, vi 5, vi 0, vi 101] [] t
  refine XS.iinc X2.here hx rfl (hb hby d0_32) rfl (l' := #[vr s_, vi 1, vr d_, vi 0, vi 5, vi 0, vi 101]) rfl ?_
  show S_ p e below T2 m 35 #[vr s_, vi 1, vr d_, vi 0, vi 5, vi 0, vi 101] [] t
  refine XS.iinc X2.here hx rfl (hb hby d0_35) rfl (l' := #[vr s_, vi 1, vr d_, vi 1, vi 5, vi 0, vi 101]) rfl ?_
  show S_ p e below T2 m 38 #[vr s_, vi 1, vr d_, vi 1, vi 5, vi 0, vi 101] [] t
  refine XS.iinc X2.here hx rfl (hb hby d0_38) rfl (l' := #[vr s_, vi 1, vr d_, vi 1, vi 5, vi 1, vi 101]) rfl ?_
  show S_ p e below T2 m 41 #[vr s_, vi 1, vr d_, vi 1, vi 5, vi 1, vi 101] [] t
  refine yG X2.here hx rfl 41 3 rfl (hb hby d0_41) ?_
  show S_ p e below T2 m 3 #[vr s_, vi 1, vr d_, vi 1, vi 5, vi 1, vi 101] [] t
  refine XS.iload X2.here hx rfl (hb hby d0_3) rfl ?_
  show S_ p e below T2 m 5 #[vr s_, vi 1, vr d_, vi 1, vi 5, vi 1, vi 101] [(ii 1)] t
  refine XS.iload X2.here hx rfl (hb hby d0_5) rfl ?_
  show S_ p e below T2 m 7 #[vr s_, vi 1, vr d_, vi 1, vi 5, vi 1, vi 101] [(ii 5), (ii 1)] t
  refine XS.icmpNo X2.here hx rfl (hb hby d0_7) rfl rfl ?_
  show S_ p e below T2 m 10 #[vr s_, vi 1, vr d_, vi 1, vi 5, vi 1, vi 101] [] t
  refine XS.aloadN X2.here hx rfl (hb hby d0_10) rfl rfl ?_
  show S_ p e below T2 m 11 #[vr s_, vi 1, vr d_, vi 1, vi 5, vi 1, vi 101] [(rr s_)] t
  refine XS.iloadN X2.here hx rfl (hb hby d0_11) rfl ?_
  show S_ p e below T2 m 12 #[vr s_, vi 1, vr d_, vi 1, vi 5, vi 1, vi 101] [(ii 1), (rr s_)] t
  refine ldC X2 hx hZ e2 (A0_.other W2 NE3_) (v := (ii 114)) (by decide) (by decide) rfl rfl rfl (hb hby d0_12) ?_
  show S_ p e below T2 m 13 #[vr s_, vi 1, vr d_, vi 1, vi 5, vi 1, vi 101] [(ii 114)] t
  refine XS.istore X2.here hx rfl (hb hby d0_13) rfl (l' := #[vr s_, vi 1, vr d_, vi 1, vi 5, vi 1, vi 114]) rfl ?_
  show S_ p e below T2 m 15 #[vr s_, vi 1, vr d_, vi 1, vi 5, vi 1, vi 114] [] t
  refine XS.iload X2.here hx rfl (hb hby d0_15) rfl ?_
  show S_ p e below T2 m 17 #[vr s_, vi 1, vr d_, vi 1, vi 5, vi 1, vi 114] [(ii 114)] t
  refine XS.sipush X2.here hx rfl (hb hby d0_17) ?_
  show S_ p e below T2 m 20 #[vr s_, vi 1, vr d_, vi 1, vi 5, vi 1, vi 114] [(ii 255), (ii 114)] t
  refine yC X2.here hx rfl 20 26 rfl (hb hby d0_20) rfl rfl ?_
  show S_ p e below T2 m 26 #[vr s_, vi 1, vr d_, vi 1, vi 5, vi 1, vi 114] [] t
  refine XS.aloadN X2.here hx rfl (hb hby d0_26) rfl rfl ?_
  show S_ p e below T2 m 27 #[vr s_, vi 1, vr d_, vi 1, vi 5, vi 1, vi 114] [(rr d_)] t
  refine XS.iloadN X2.here hx rfl (hb hby d0_27) rfl ?_
  show S_ p e below T2 m 28 #[vr s_, vi 1, vr d_, vi 1, vi 5, vi 1, vi 114] [(ii 1), (rr d_)] t
  refine XS.iload X2.here hx rfl (hb hby d0_28) rfl ?_
  show S_ p e below T2 m 30 #[vr s_, vi 1, vr d_, vi 1, vi 5, vi 1, vi 114] [(ii 114), (ii 1), (rr d_)] t
  refine XS.i2b X2.here hx rfl (hb hby d0_30) rfl ?_
  exact k
 obtain ⟨T9, h9, X9, e9, W9, f12, o10, N11, c9⟩ := kstB X2 hx hZ e2 f6 (j := (1 : Int32)) (by decide) (by decide) 1 rfl (Nat.le_of_ble_eq_true rfl) c8 rfl rfl (hb hby d0_31) o3 N4 G2_
 have f13 : Arv Z h9 d_ kd_ .byte (5 : Int32) [(ii 101), (ii 114), (ii 0), (ii 0), (ii 0)] (ii 0) := f12
 have kp14 := kp7.wr W9 (Or.inl (List.mem_of_getElem? (i := 0) rfl))
 have c15 : Kt p e below T9 st0 (mkF m 31 #[vr s_, vi 2, vr d_, vi 2, vi 5, vi 2, vi 114] [(ii 114), (ii 2), (rr d_)]) := fun t k => by
  refine c9 t ?_
  show S_ p e below T9 m 32 #[vr s_, vi 1, vr d_, vi 1, vi 5, vi 1, vi 114] [] t
  refine XS.iinc X9.here hx rfl (hb hby d0_32) rfl (l' := #[vr s_, vi 2, vr d_, vi 1, vi 5, vi 1, vi 114]) rfl ?_
  show S_ p e below T9 m 35 #[vr s_, vi 2, vr d_, vi 1, vi 5, vi 1, vi 114] [] t
  refine XS.iinc X9.here hx rfl (hb hby d0_35) rfl (l' := #[vr s_, vi 2, vr d_, vi 2, vi 5, vi 1, vi 114]) rfl ?_
  show S_ p e below T9 m 38 #[vr s_, vi 2, vr d_, vi 2, vi 5, vi 1, vi 114] [] t
  refine XS.iinc X9.here hx rfl (hb hby d0_38) rfl (l' := #[vr s_, vi 2, vr d_, vi 2, vi 5, vi 2, vi 114]) rfl ?_
  show S_ p e below T9 m 41 #[vr s_, vi 2, vr d_, vi 2, vi 5, vi 2, vi 114] [] t
  refine yG X9.here hx rfl 41 3 rfl (hb hby d0_41) ?_
  show S_ p e below T9 m 3 #[vr s_, vi 2, vr d_, vi 2, vi 5, vi 2, vi 114] [] t
  refine XS.iload X9.here hx rfl (hb hby d0_3) rfl ?_
  show S_ p e below T9 m 5 #[vr s_, vi 2, vr d_, vi 2, vi 5, vi 2, vi 114] [(ii 2)] t
  refine XS.iload X9.here hx rfl (hb hby d0_5) rfl ?_
  show S_ p e below T9 m 7 #[vr s_, vi 2, vr d_, vi 2, vi 5, vi 2, vi 114] [(ii 5), (ii 2)] t
  refine XS.icmpNo X9.here hx rfl (hb hby d0_7) rfl rfl ?_
  show S_ p e below T9 m 10 #[vr s_, vi 2, vr d_, vi 2, vi 5, vi 2, vi 114] [] t
  refine XS.aloadN X9.here hx rfl (hb hby d0_10) rfl rfl ?_
  show S_ p e below T9 m 11 #[vr s_, vi 2, vr d_, vi 2, vi 5, vi 2, vi 114] [(rr s_)] t
  refine XS.iloadN X9.here hx rfl (hb hby d0_11) rfl ?_
  show S_ p e below T9 m 12 #[vr s_, vi 2, vr d_, vi 2, vi 5, vi 2, vi 114] [(ii 2), (rr s_)] t
  refine ldC X9 hx hZ e9 ((A0_.other W2 NE3_).other W9 NE3_) (v := (ii 114)) (by decide) (by decide) rfl rfl rfl (hb hby d0_12) ?_
  show S_ p e below T9 m 13 #[vr s_, vi 2, vr d_, vi 2, vi 5, vi 2, vi 114] [(ii 114)] t
  refine XS.istore X9.here hx rfl (hb hby d0_13) rfl (l' := #[vr s_, vi 2, vr d_, vi 2, vi 5, vi 2, vi 114]) rfl ?_
  show S_ p e below T9 m 15 #[vr s_, vi 2, vr d_, vi 2, vi 5, vi 2, vi 114] [] t
  refine XS.iload X9.here hx rfl (hb hby d0_15) rfl ?_
  show S_ p e below T9 m 17 #[vr s_, vi 2, vr d_, vi 2, vi 5, vi 2, vi 114] [(ii 114)] t
  refine XS.sipush X9.here hx rfl (hb hby d0_17) ?_
  show S_ p e below T9 m 20 #[vr s_, vi 2, vr d_, vi 2, vi 5, vi 2, vi 114] [(ii 255), (ii 114)] t
  refine yC X9.here hx rfl 20 26 rfl (hb hby d0_20) rfl rfl ?_
  show S_ p e below T9 m 26 #[vr s_, vi 2, vr d_, vi 2, vi 5, vi 2, vi 114] [] t
  refine XS.aloadN X9.here hx rfl (hb hby d0_26) rfl rfl ?_
  show S_ p e below T9 m 27 #[vr s_, vi 2, vr d_, vi 2, vi 5, vi 2, vi 114] [(rr d_)] t
  refine XS.iloadN X9.here hx rfl (hb hby d0_27) rfl ?_
  show S_ p e below T9 m 28 #[vr s_, vi 2, vr d_, vi 2, vi 5, vi 2, vi 114] [(ii 2), (rr d_)] t
  refine XS.iload X9.here hx rfl (hb hby d0_28) rfl ?_
  show S_ p e below T9 m 30 #[vr s_, vi 2, vr d_, vi 2, vi 5, vi 2, vi 114] [(ii 114), (ii 2), (rr d_)] t
  refine XS.i2b X9.here hx rfl (hb hby d0_30) rfl ?_
  exact k
 obtain ⟨T16, h16, X16, e16, W16, f19, o17, N18, c16⟩ := kstB X9 hx hZ e9 f13 (j := (2 : Int32)) (by decide) (by decide) 2 rfl (Nat.le_of_ble_eq_true rfl) c15 rfl rfl (hb hby d0_31) o10 N11 G2_
 have f20 : Arv Z h16 d_ kd_ .byte (5 : Int32) [(ii 101), (ii 114), (ii 114), (ii 0), (ii 0)] (ii 0) := f19
 have kp21 := kp14.wr W16 (Or.inl (List.mem_of_getElem? (i := 0) rfl))
 have c22 : Kt p e below T16 st0 (mkF m 31 #[vr s_, vi 3, vr d_, vi 3, vi 5, vi 3, vi 111] [(ii 111), (ii 3), (rr d_)]) := fun t k => by
  refine c16 t ?_
  show S_ p e below T16 m 32 #[vr s_, vi 2, vr d_, vi 2, vi 5, vi 2, vi 114] [] t
  refine XS.iinc X16.here hx rfl (hb hby d0_32) rfl (l' := #[vr s_, vi 3, vr d_, vi 2, vi 5, vi 2, vi 114]) rfl ?_
  show S_ p e below T16 m 35 #[vr s_, vi 3, vr d_, vi 2, vi 5, vi 2, vi 114] [] t
  refine XS.iinc X16.here hx rfl (hb hby d0_35) rfl (l' := #[vr s_, vi 3, vr d_, vi 3, vi 5, vi 2, vi 114]) rfl ?_
  show S_ p e below T16 m 38 #[vr s_, vi 3, vr d_, vi 3, vi 5, vi 2, vi 114] [] t
  refine XS.iinc X16.here hx rfl (hb hby d0_38) rfl (l' := #[vr s_, vi 3, vr d_, vi 3, vi 5, vi 3, vi 114]) rfl ?_
  show S_ p e below T16 m 41 #[vr s_, vi 3, vr d_, vi 3, vi 5, vi 3, vi 114] [] t
  refine yG X16.here hx rfl 41 3 rfl (hb hby d0_41) ?_
  show S_ p e below T16 m 3 #[vr s_, vi 3, vr d_, vi 3, vi 5, vi 3, vi 114] [] t
  refine XS.iload X16.here hx rfl (hb hby d0_3) rfl ?_
  show S_ p e below T16 m 5 #[vr s_, vi 3, vr d_, vi 3, vi 5, vi 3, vi 114] [(ii 3)] t
  refine XS.iload X16.here hx rfl (hb hby d0_5) rfl ?_
  show S_ p e below T16 m 7 #[vr s_, vi 3, vr d_, vi 3, vi 5, vi 3, vi 114] [(ii 5), (ii 3)] t
  refine XS.icmpNo X16.here hx rfl (hb hby d0_7) rfl rfl ?_
  show S_ p e below T16 m 10 #[vr s_, vi 3, vr d_, vi 3, vi 5, vi 3, vi 114] [] t
  refine XS.aloadN X16.here hx rfl (hb hby d0_10) rfl rfl ?_
  show S_ p e below T16 m 11 #[vr s_, vi 3, vr d_, vi 3, vi 5, vi 3, vi 114] [(rr s_)] t
  refine XS.iloadN X16.here hx rfl (hb hby d0_11) rfl ?_
  show S_ p e below T16 m 12 #[vr s_, vi 3, vr d_, vi 3, vi 5, vi 3, vi 114] [(ii 3), (rr s_)] t
  refine ldC X16 hx hZ e16 (((A0_.other W2 NE3_).other W9 NE3_).other W16 NE3_) (v := (ii 111)) (by decide) (by decide) rfl rfl rfl (hb hby d0_12) ?_
  show S_ p e below T16 m 13 #[vr s_, vi 3, vr d_, vi 3, vi 5, vi 3, vi 114] [(ii 111)] t
  refine XS.istore X16.here hx rfl (hb hby d0_13) rfl (l' := #[vr s_, vi 3, vr d_, vi 3, vi 5, vi 3, vi 111]) rfl ?_
  show S_ p e below T16 m 15 #[vr s_, vi 3, vr d_, vi 3, vi 5, vi 3, vi 111] [] t
  refine XS.iload X16.here hx rfl (hb hby d0_15) rfl ?_
  show S_ p e below T16 m 17 #[vr s_, vi 3, vr d_, vi 3, vi 5, vi 3, vi 111] [(ii 111)] t
  refine XS.sipush X16.here hx rfl (hb hby d0_17) ?_
  show S_ p e below T16 m 20 #[vr s_, vi 3, vr d_, vi 3, vi 5, vi 3, vi 111] [(ii 255), (ii 111)] t
  refine yC X16.here hx rfl 20 26 rfl (hb hby d0_20) rfl rfl ?_
  show S_ p e below T16 m 26 #[vr s_, vi 3, vr d_, vi 3, vi 5, vi 3, vi 111] [] t
  refine XS.aloadN X16.here hx rfl (hb hby d0_26) rfl rfl ?_
  show S_ p e below T16 m 27 #[vr s_, vi 3, vr d_, vi 3, vi 5, vi 3, vi 111] [(rr d_)] t
  refine XS.iloadN X16.here hx rfl (hb hby d0_27) rfl ?_
  show S_ p e below T16 m 28 #[vr s_, vi 3, vr d_, vi 3, vi 5, vi 3, vi 111] [(ii 3), (rr d_)] t
  refine XS.iload X16.here hx rfl (hb hby d0_28) rfl ?_
  show S_ p e below T16 m 30 #[vr s_, vi 3, vr d_, vi 3, vi 5, vi 3, vi 111] [(ii 111), (ii 3), (rr d_)] t
  refine XS.i2b X16.here hx rfl (hb hby d0_30) rfl ?_
  exact k
 obtain ⟨T23, h23, X23, e23, W23, f26, o24, N25, c23⟩ := kstB X16 hx hZ e16 f20 (j := (3 : Int32)) (by decide) (by decide) 3 rfl (Nat.le_of_ble_eq_true rfl) c22 rfl rfl (hb hby d0_31) o17 N18 G2_
 have f27 : Arv Z h23 d_ kd_ .byte (5 : Int32) [(ii 101), (ii 114), (ii 114), (ii 111), (ii 0)] (ii 0) := f26
 have kp28 := kp21.wr W23 (Or.inl (List.mem_of_getElem? (i := 0) rfl))
 have c29 : Kt p e below T23 st0 (mkF m 31 #[vr s_, vi 4, vr d_, vi 4, vi 5, vi 4, vi 114] [(ii 114), (ii 4), (rr d_)]) := fun t k => by
  refine c23 t ?_
  show S_ p e below T23 m 32 #[vr s_, vi 3, vr d_, vi 3, vi 5, vi 3, vi 111] [] t
  refine XS.iinc X23.here hx rfl (hb hby d0_32) rfl (l' := #[vr s_, vi 4, vr d_, vi 3, vi 5, vi 3, vi 111]) rfl ?_
  show S_ p e below T23 m 35 #[vr s_, vi 4, vr d_, vi 3, vi 5, vi 3, vi 111] [] t
  refine XS.iinc X23.here hx rfl (hb hby d0_35) rfl (l' := #[vr s_, vi 4, vr d_, vi 4, vi 5, vi 3, vi 111]) rfl ?_
  show S_ p e below T23 m 38 #[vr s_, vi 4, vr d_, vi 4, vi 5, vi 3, vi 111] [] t
  refine XS.iinc X23.here hx rfl (hb hby d0_38) rfl (l' := #[vr s_, vi 4, vr d_, vi 4, vi 5, vi 4, vi 111]) rfl ?_
  show S_ p e below T23 m 41 #[vr s_, vi 4, vr d_, vi 4, vi 5, vi 4, vi 111] [] t
  refine yG X23.here hx rfl 41 3 rfl (hb hby d0_41) ?_
  show S_ p e below T23 m 3 #[vr s_, vi 4, vr d_, vi 4, vi 5, vi 4, vi 111] [] t
  refine XS.iload X23.here hx rfl (hb hby d0_3) rfl ?_
  show S_ p e below T23 m 5 #[vr s_, vi 4, vr d_, vi 4, vi 5, vi 4, vi 111] [(ii 4)] t
  refine XS.iload X23.here hx rfl (hb hby d0_5) rfl ?_
  show S_ p e below T23 m 7 #[vr s_, vi 4, vr d_, vi 4, vi 5, vi 4, vi 111] [(ii 5), (ii 4)] t
  refine XS.icmpNo X23.here hx rfl (hb hby d0_7) rfl rfl ?_
  show S_ p e below T23 m 10 #[vr s_, vi 4, vr d_, vi 4, vi 5, vi 4, vi 111] [] t
  refine XS.aloadN X23.here hx rfl (hb hby d0_10) rfl rfl ?_
  show S_ p e below T23 m 11 #[vr s_, vi 4, vr d_, vi 4, vi 5, vi 4, vi 111] [(rr s_)] t
  refine XS.iloadN X23.here hx rfl (hb hby d0_11) rfl ?_
  show S_ p e below T23 m 12 #[vr s_, vi 4, vr d_, vi 4, vi 5, vi 4, vi 111] [(ii 4), (rr s_)] t
  refine ldC X23 hx hZ e23 ((((A0_.other W2 NE3_).other W9 NE3_).other W16 NE3_).other W23 NE3_) (v := (ii 114)) (by decide) (by decide) rfl rfl rfl (hb hby d0_12) ?_
  show S_ p e below T23 m 13 #[vr s_, vi 4, vr d_, vi 4, vi 5, vi 4, vi 111] [(ii 114)] t
  refine XS.istore X23.here hx rfl (hb hby d0_13) rfl (l' := #[vr s_, vi 4, vr d_, vi 4, vi 5, vi 4, vi 114]) rfl ?_
  show S_ p e below T23 m 15 #[vr s_, vi 4, vr d_, vi 4, vi 5, vi 4, vi 114] [] t
  refine XS.iload X23.here hx rfl (hb hby d0_15) rfl ?_
  show S_ p e below T23 m 17 #[vr s_, vi 4, vr d_, vi 4, vi 5, vi 4, vi 114] [(ii 114)] t
  refine XS.sipush X23.here hx rfl (hb hby d0_17) ?_
  show S_ p e below T23 m 20 #[vr s_, vi 4, vr d_, vi 4, vi 5, vi 4, vi 114] [(ii 255), (ii 114)] t
  refine yC X23.here hx rfl 20 26 rfl (hb hby d0_20) rfl rfl ?_
  show S_ p e below T23 m 26 #[vr s_, vi 4, vr d_, vi 4, vi 5, vi 4, vi 114] [] t
  refine XS.aloadN X23.here hx rfl (hb hby d0_26) rfl rfl ?_
  show S_ p e below T23 m 27 #[vr s_, vi 4, vr d_, vi 4, vi 5, vi 4, vi 114] [(rr d_)] t
  refine XS.iloadN X23.here hx rfl (hb hby d0_27) rfl ?_
  show S_ p e below T23 m 28 #[vr s_, vi 4, vr d_, vi 4, vi 5, vi 4, vi 114] [(ii 4), (rr d_)] t
  refine XS.iload X23.here hx rfl (hb hby d0_28) rfl ?_
  show S_ p e below T23 m 30 #[vr s_, vi 4, vr d_, vi 4, vi 5, vi 4, vi 114] [(ii 114), (ii 4), (rr d_)] t
  refine XS.i2b X23.here hx rfl (hb hby d0_30) rfl ?_
  exact k
 obtain ⟨T30, h30, X30, e30, W30, f33, o31, N32, c30⟩ := kstB X23 hx hZ e23 f27 (j := (4 : Int32)) (by decide) (by decide) 4 rfl (Nat.le_of_ble_eq_true rfl) c29 rfl rfl (hb hby d0_31) o24 N25 G2_
 have f34 : Arv Z h30 d_ kd_ .byte (5 : Int32) [(ii 101), (ii 114), (ii 114), (ii 111), (ii 114)] (ii 0) := f33
 have kp35 := kp28.wr W30 (Or.inl (List.mem_of_getElem? (i := 0) rfl))
 obtain ⟨fs, hr, hrun, hended, hW, hsame⟩ := X30.leave (v := some (ii 5)) (fun h => by rw [Bd.returns] at h; cases h)
 refine ⟨_, _, c30 _ ?_, hrun, hended, _, _, rfl, ?_, ⟨_, rfl⟩, hW, hsame.mono (by decide) (by decide)⟩
 ·show S_ p e below T30 m 32 #[vr s_, vi 4, vr d_, vi 4, vi 5, vi 4, vi 114] [] _
  refine XS.iinc X30.here hx rfl (hb hby d0_32) rfl (l' := #[vr s_, vi 5, vr d_, vi 4, vi 5, vi 4, vi 114]) rfl ?_
  show S_ p e below T30 m 35 #[vr s_, vi 5, vr d_, vi 4, vi 5, vi 4, vi 114] [] _
  refine XS.iinc X30.here hx rfl (hb hby d0_35) rfl (l' := #[vr s_, vi 5, vr d_, vi 5, vi 5, vi 4, vi 114]) rfl ?_
  show S_ p e below T30 m 38 #[vr s_, vi 5, vr d_, vi 5, vi 5, vi 4, vi 114] [] _
  refine XS.iinc X30.here hx rfl (hb hby d0_38) rfl (l' := #[vr s_, vi 5, vr d_, vi 5, vi 5, vi 5, vi 114]) rfl ?_
  show S_ p e below T30 m 41 #[vr s_, vi 5, vr d_, vi 5, vi 5, vi 5, vi 114] [] _
  refine yG X30.here hx rfl 41 3 rfl (hb hby d0_41) ?_
  show S_ p e below T30 m 3 #[vr s_, vi 5, vr d_, vi 5, vi 5, vi 5, vi 114] [] _
  refine XS.iload X30.here hx rfl (hb hby d0_3) rfl ?_
  show S_ p e below T30 m 5 #[vr s_, vi 5, vr d_, vi 5, vi 5, vi 5, vi 114] [(ii 5)] _
  refine XS.iload X30.here hx rfl (hb hby d0_5) rfl ?_
  show S_ p e below T30 m 7 #[vr s_, vi 5, vr d_, vi 5, vi 5, vi 5, vi 114] [(ii 5), (ii 5)] _
  refine yC X30.here hx rfl 7 44 rfl (hb hby d0_7) rfl rfl ?_
  show S_ p e below T30 m 44 #[vr s_, vi 5, vr d_, vi 5, vi 5, vi 5, vi 114] [] _
  refine XS.iload X30.here hx rfl (hb hby d0_44) rfl ?_
  show S_ p e below T30 m 46 #[vr s_, vi 5, vr d_, vi 5, vi 5, vi 5, vi 114] [(ii 5)] _
  exact retOut X30 hx Bd.returns rfl (Or.inl ⟨rfl, Or.inl rfl, _, rfl⟩) (hb hby d0_46) hr
 ·show Q_cmp5_error Z s_ ks_ d_ kd_ h0 n0 _ T30.heap _
  rw [e30]
  exact ⟨rfl, N32, kp35, f34⟩
theorem ef_cmp3_error (m : MethodId) (s_ : Addr) : entryFrame m #[(rr s_), (ii 0), (ii 5)] 6 = mkF m 0 #[vr s_, vi 0, vi 5, u_, u_, u_] [] := by first | (simp [entryFrame, mkF, argsToLocals, Value.category]; done) | rfl
def Q_cmp3_error (Z : State) (s_ : Addr) (ks_ : ClassId) (h0 : Heap) (n0 : Nat) (v : Option Value) (h : Heap) (L : List Loc) : Prop := ∃ (b_ : Addr), ∃ (kb_ : ClassId), v = some (rr b_) ∧ Fr n0 L ∧ Keep h0 h [] ∧ Arv Z h b_ kb_ .byte (5 : Int32) [(ii 101), (ii 114), (ii 114), (ii 111), (ii 114)] (ii 0) ∧ n0 ≤ b_ ∧ h0.size ≤ b_
set_option maxRecDepth 65536 in
set_option maxHeartbeats 40000000 in
theorem rm_cmp3_error (l : Launch) (Z : State) (a0 : Array Value) (hw : HW Z a0) (ws : List Jvm.Cond) (s_ : Addr) (ks_ : ClassId) (h0 : Heap) (n0 : Nat) (O0 : Old Z n0 h0) (A0_ : Arv Z h0 s_ ks_ .char (5 : Int32) [(ii 101), (ii 114), (ii 114), (ii 111), (ii 114)] (ii 0)) :
  MFP l Z (⟨nm4, "compress", "([CII)[B"⟩ : MethodName) jdk_52_method_16_code 6 (some (.array .byte)) ({ frames := 1, cells := 1, slots := 5, locals := 18 } : Room) ws #[(rr s_), (ii 0), (ii 5)] h0 (Q_cmp3_error Z s_ ks_ h0 n0) := by
 refine MetFree.of_bodySF (plainFor_of_name pn_java_lang_StringUTF16) hisR ?_
 intro p e s m args below meth c s₁ Bd hml0 hP hK
 obtain ⟨rfl, hZ, hh⟩ := hP
 have hx := Bd.exec
 have hby := Bd.bytes
 have hml : c.maxLocals = 6 := hml0
 have hown : s.vm.findClass nm4 = some m.cls := findClass_of_methodNamed Bd.named
 have hnm := (name_of_methodNamed Bd.named Bd.method).1
 have X0 : Stand p l e ({ frames := 1, cells := 1, slots := 5, locals := 18 } : Room) s m #[(rr s_), (ii 0), (ii 5)] below meth c s₁ [] 0 0 := Stand.of_body Bd
 have e0 : s₁.heap = h0 := by rw [← hh, Bd.state]; rfl
 have N0 := Fr.nil n0
 have kp0 : Keep h0 h0 [] := Keep.refl _ _
 have c0 : ∀ t, S_ p e below s₁ m 0 #[vr s_, vi 0, vi 5, u_, u_, u_] [] t → Steps p.tables e below (s₁.setTop (entryFrame m #[(rr s_), (ii 0), (ii 5)] 6)) t := fun t k => castTop (ef_cmp3_error m s_) k
 generalize s₁.setTop (entryFrame m #[(rr s_), (ii 0), (ii 5)] 6) = st0 at c0 ⊢
 replace c0 : Kt p e below s₁ st0 (mkF m 0 #[vr s_, vi 0, vi 5, u_, u_, u_] []) := c0
 have c1 : Kt p e below s₁ st0 (mkF m 1 #[vr s_, vi 0, vi 5, u_, u_, u_] [(ii 5)]) := fun t k => by
  refine c0 t ?_
  show S_ p e below s₁ m 0 #[vr s_, vi 0, vi 5, u_, u_, u_] [] t
  refine XS.iloadN X0.here hx rfl (hb hby d1_0) rfl ?_
  exact k
 obtain ⟨b2, T2, h2, k2, z2, g2, X2, e2, E2, o3, A2, c2⟩ := knewP (aty := .byte) X0 hx hZ (w22 hw) e0 c1 rfl (hb hby d1_1) rfl (by decide) 5 (by decide) (by decide) (by decide) (by decide) O0
 have kp5 := kp0.ext E2
 have z6 := Nat.le_trans kp0.1 z2
 have f4 : Arv Z h2 b2 k2 .byte (5 : Int32) [(ii 0), (ii 0), (ii 0), (ii 0), (ii 0)] (ii 0) := A2.pad (pad_rep [] (ii 0) 5)
 have q7 := Nat.ne_of_lt (Nat.lt_of_lt_of_le A0_.lt z2)
 have c8 : Kt p e below T2 st0 (mkF m 9 #[vr s_, vi 0, vi 5, vr b2, u_, u_] [(ii 5), (ii 0), (rr b2), (ii 0), (rr s_)]) := fun t k => by
  refine c2 t ?_
  show S_ p e below T2 m 3 #[vr s_, vi 0, vi 5, u_, u_, u_] [(rr b2)] t
  refine XS.astoreN X2.here hx rfl (hb hby d1_3) rfl rfl (l' := #[vr s_, vi 0, vi 5, vr b2, u_, u_]) rfl ?_
  show S_ p e below T2 m 4 #[vr s_, vi 0, vi 5, vr b2, u_, u_] [] t
  refine XS.aloadN X2.here hx rfl (hb hby d1_4) rfl rfl ?_
  show S_ p e below T2 m 5 #[vr s_, vi 0, vi 5, vr b2, u_, u_] [(rr s_)] t
  refine XS.iloadN X2.here hx rfl (hb hby d1_5) rfl ?_
  show S_ p e below T2 m 6 #[vr s_, vi 0, vi 5, vr b2, u_, u_] [(ii 0), (rr s_)] t
  refine XS.aloadN X2.here hx rfl (hb hby d1_6) rfl rfl ?_
  show S_ p e below T2 m 7 #[vr s_, vi 0, vi 5, vr b2, u_, u_] [(rr b2), (ii 0), (rr s_)] t
  refine XS.iconst X2.here hx rfl (hb hby d1_7) ?_
  show S_ p e below T2 m 8 #[vr s_, vi 0, vi 5, vr b2, u_, u_] [(ii 0), (rr b2), (ii 0), (rr s_)] t
  refine XS.iloadN X2.here hx rfl (hb hby d1_8) rfl ?_
  exact k
 obtain ⟨_, T9, L9, X9, hQ9, c9⟩ := kstat X2 hx hZ hown (w23 hw) (w24 hw) (w20 hw) (w25 hw) (rm_cmp5_error l Z a0 hw [] s_ ks_ b2 k2 h2 n0 o3 (A0_.ext E2) f4 g2 q7) e2 c8 hml pd_pACIABIIrI [(rr s_), (ii 0), (rr b2), (ii 0), (ii 5)] [] 0 (hb hby d1_9) rfl rfl rfl rfl rfl rfl
 obtain ⟨rfl, N10q, K11, p12⟩ := hQ9
 have N10 := Fr.app N0 N10q
 have o13 := o3.keep K11 (allS g2 all0)
 have kp14 := kp5.trans K11 (allS (Or.inr z6) all0)
 obtain ⟨fs, hr, hrun, hended, hW, hsame⟩ := X9.leave (v := some (rr b2)) (fun h => by rw [Bd.returns] at h; cases h)
 refine ⟨_, _, c9 _ ?_, hrun, hended, _, _, rfl, ?_, ⟨_, rfl⟩, hW, hsame.mono (by decide) (by decide)⟩
 ·show S_ p e below T9 m 12 #[vr s_, vi 0, vi 5, vr b2, u_, u_] [(ii 5)] _
  refine XS.istore X9.here hx rfl (hb hby d1_12) rfl (l' := #[vr s_, vi 0, vi 5, vr b2, vi 5, u_]) rfl ?_
  show S_ p e below T9 m 14 #[vr s_, vi 0, vi 5, vr b2, vi 5, u_] [] _
  refine XS.iload X9.here hx rfl (hb hby d1_14) rfl ?_
  show S_ p e below T9 m 16 #[vr s_, vi 0, vi 5, vr b2, vi 5, u_] [(ii 5)] _
  refine XS.iloadN X9.here hx rfl (hb hby d1_16) rfl ?_
  show S_ p e below T9 m 17 #[vr s_, vi 0, vi 5, vr b2, vi 5, u_] [(ii 5), (ii 5)] _
  refine yC X9.here hx rfl 17 57 rfl (hb hby d1_17) rfl rfl ?_
  show S_ p e below T9 m 57 #[vr s_, vi 0, vi 5, vr b2, vi 5, u_] [] _
  refine XS.aloadN X9.here hx rfl (hb hby d1_57) rfl rfl ?_
  show S_ p e below T9 m 58 #[vr s_, vi 0, vi 5, vr b2, vi 5, u_] [(rr b2)] _
  exact retOut X9 hx Bd.returns rfl (Or.inr (Or.inr (Or.inr (Or.inr ⟨rfl, rfl, rfl⟩)))) (hb hby d1_58) hr
 ·show Q_cmp3_error Z s_ ks_ h0 n0 _ T9.heap _
  exact ⟨b2, k2, rfl, N10, kp14, p12, g2, z6⟩
theorem ef_codl_5 (m : MethodId) (s_ : Addr) : entryFrame m #[(rr s_), (ii 5)] 2 = mkF m 0 #[vr s_, vi 5] [] := by first | (simp [entryFrame, mkF, argsToLocals, Value.category]; done) | rfl
def Q_codl_5 (Z : State) (s_ : Addr) (ks_ : ClassId) (vs_ : List Value) (h0 : Heap) (n0 : Nat) (v : Option Value) (h : Heap) (L : List Loc) : Prop := v = some (ii 0) ∧ Fr n0 L ∧ h = h0
set_option maxRecDepth 65536 in
set_option maxHeartbeats 40000000 in
theorem rm_codl_5 (l : Launch) (Z : State) (a0 : Array Value) (hw : HW Z a0) (ws : List Jvm.Cond) (s_ : Addr) (ks_ : ClassId) (vs_ : List Value) (h0 : Heap) (n0 : Nat) (O0 : Old Z n0 h0) (A0_ : Arv Z h0 s_ ks_ .byte (5 : Int32) vs_ (ii 0)) :
  MFP l Z (⟨nm4, "coderFromArrayLen", "([BI)B"⟩ : MethodName) jdk_52_method_15_code 2 (some .byte) ({ frames := 0, cells := 0, slots := 0, locals := 0 } : Room) ws #[(rr s_), (ii 5)] h0 (Q_codl_5 Z s_ ks_ vs_ h0 n0) := by
 refine MetFree.of_bodySF (plainFor_of_name pn_java_lang_StringUTF16) hisR ?_
 intro p e s m args below meth c s₁ Bd hml0 hP hK
 obtain ⟨rfl, hZ, hh⟩ := hP
 have hx := Bd.exec
 have hby := Bd.bytes
 have hml : c.maxLocals = 2 := hml0
 have hown : s.vm.findClass nm4 = some m.cls := findClass_of_methodNamed Bd.named
 have hnm := (name_of_methodNamed Bd.named Bd.method).1
 have X0 : Stand p l e ({ frames := 0, cells := 0, slots := 0, locals := 0 } : Room) s m #[(rr s_), (ii 5)] below meth c s₁ [] 0 0 := Stand.of_body Bd
 have e0 : s₁.heap = h0 := by rw [← hh, Bd.state]; rfl
 have N0 := Fr.nil n0
 have kp0 : Keep h0 h0 [] := Keep.refl _ _
 have c0 : ∀ t, S_ p e below s₁ m 0 #[vr s_, vi 5] [] t → Steps p.tables e below (s₁.setTop (entryFrame m #[(rr s_), (ii 5)] 2)) t := fun t k => castTop (ef_codl_5 m s_) k
 generalize s₁.setTop (entryFrame m #[(rr s_), (ii 5)] 2) = st0 at c0 ⊢
 replace c0 : Kt p e below s₁ st0 (mkF m 0 #[vr s_, vi 5] []) := c0
 obtain ⟨fs, hr, hrun, hended, hW, hsame⟩ := X0.leave (v := some (ii 0)) (fun h => by rw [Bd.returns] at h; cases h)
 refine ⟨_, _, c0 _ ?_, hrun, hended, _, _, rfl, ?_, ⟨_, rfl⟩, hW, hsame.mono (by decide) (by decide)⟩
 ·show S_ p e below s₁ m 0 #[vr s_, vi 5] [] _
  refine XS.iloadN X0.here hx rfl (hb hby d2_0) rfl ?_
  show S_ p e below s₁ m 1 #[vr s_, vi 5] [(ii 5)] _
  refine XS.aloadN X0.here hx rfl (hb hby d2_1) rfl rfl ?_
  show S_ p e below s₁ m 2 #[vr s_, vi 5] [(rr s_), (ii 5)] _
  refine ldLen X0 hx hZ e0 A0_ rfl rfl (hb hby d2_2) ?_
  show S_ p e below s₁ m 3 #[vr s_, vi 5] [(ii 5), (ii 5)] _
  refine XS.isub X0.here hx rfl (hb hby d2_3) rfl ?_
  show S_ p e below s₁ m 4 #[vr s_, vi 5] [(ii 0)] _
  refine XS.bipush X0.here hx rfl (hb hby d2_4) ?_
  show S_ p e below s₁ m 6 #[vr s_, vi 5] [(ii 31), (ii 0)] _
  refine XS.iushr X0.here hx rfl (hb hby d2_6) rfl ?_
  show S_ p e below s₁ m 7 #[vr s_, vi 5] [(ii 0)] _
  refine XS.i2b X0.here hx rfl (hb hby d2_7) rfl ?_
  show S_ p e below s₁ m 8 #[vr s_, vi 5] [(ii 0)] _
  exact retN X0 hx (t := .byte) Bd.returns (by simp) (hb hby d2_8) hr
 ·show Q_codl_5 Z s_ ks_ vs_ h0 n0 _ s₁.heap _
  rw [e0]
  exact ⟨rfl, N0, rfl⟩
theorem ef_str4_error (m : MethodId) (x_ : Addr) (s_ : Addr) : entryFrame m #[(rr x_), (rr s_), (ii 0), (ii 5), .null] 6 = mkF m 0 #[vr x_, vr s_, vi 0, vi 5, .val .null, u_] [] := by first | (simp [entryFrame, mkF, argsToLocals, Value.category]; done) | rfl
def Q_str4_error (Z : State) (x_ : Addr) (s_ : Addr) (ks_ : ClassId) (z_ : Int32) (h0 : Heap) (n0 : Nat) (v : Option Value) (h : Heap) (L : List Loc) : Prop := v = none ∧ Fr n0 L ∧ Keep h0 h [x_] ∧ Exa Z h x_ nm1 ∧ Fld Z h x_ nm1 "coder" "B" (ii 0) ∧ ∃ (b_ : Addr), ∃ (kb_ : ClassId), Fld Z h x_ nm1 "value" "[B" (rr b_) ∧ Arv Z h b_ kb_ .byte (5 : Int32) [(ii 101), (ii 114), (ii 114), (ii 111), (ii 114)] (ii 0) ∧ n0 ≤ b_ ∧ h0.size ≤ b_
set_option maxRecDepth 65536 in
set_option maxHeartbeats 40000000 in
theorem rm_str4_error (l : Launch) (Z : State) (a0 : Array Value) (hw : HW Z a0) (ws : List Jvm.Cond) (x_ : Addr) (s_ : Addr) (ks_ : ClassId) (z_ : Int32) (h0 : Heap) (n0 : Nat) (O0 : Old Z n0 h0) (E0_ : Exa Z h0 x_ nm1) (F1_ : Fld Z h0 x_ nm1 "value" "[B" .null) (F2_ : Fld Z h0 x_ nm1 "coder" "B" (ii 0)) (G3_ : n0 ≤ x_) (A4_ : Arv Z h0 s_ ks_ .char (5 : Int32) [(ii 101), (ii 114), (ii 114), (ii 111), (ii 114)] (ii 0)) (ZS5_ : Sta Z Z.heap nm1 "COMPACT_STRINGS" "Z" (.int z_)) (hz_ : ¬ (z_ = (0 : Int32))) :
  MFP l Z (⟨nm1, "<init>", "([CIILjava/lang/Void;)V"⟩ : MethodName) jdk_42_method_149_code 6 none ({ frames := 2, cells := 1, slots := 5, locals := 35 } : Room) ws #[(rr x_), (rr s_), (ii 0), (ii 5), .null] h0 (Q_str4_error Z x_ s_ ks_ z_ h0 n0) := by
 refine MetFree.of_bodySF (plainFor_of_name pn_java_lang_String) hisR ?_
 intro p e s m args below meth c s₁ Bd hml0 hP hK
 obtain ⟨rfl, hZ, hh⟩ := hP
 have hx := Bd.exec
 have hby := Bd.bytes
 have hml : c.maxLocals = 6 := hml0
 have hown : s.vm.findClass nm1 = some m.cls := findClass_of_methodNamed Bd.named
 have hnm := (name_of_methodNamed Bd.named Bd.method).1
 have X0 : Stand p l e ({ frames := 2, cells := 1, slots := 5, locals := 35 } : Room) s m #[(rr x_), (rr s_), (ii 0), (ii 5), .null] below meth c s₁ [] 0 0 := Stand.of_body Bd
 have e0 : s₁.heap = h0 := by rw [← hh, Bd.state]; rfl
 have N0 := Fr.nil n0
 have kp0 : Keep h0 h0 [x_] := Keep.refl _ _
 have c0 : ∀ t, S_ p e below s₁ m 0 #[vr x_, vr s_, vi 0, vi 5, .val .null, u_] [] t → Steps p.tables e below (s₁.setTop (entryFrame m #[(rr x_), (rr s_), (ii 0), (ii 5), .null] 6)) t := fun t k => castTop (ef_str4_error m x_ s_) k
 generalize s₁.setTop (entryFrame m #[(rr x_), (rr s_), (ii 0), (ii 5), .null] 6) = st0 at c0 ⊢
 replace c0 : Kt p e below s₁ st0 (mkF m 0 #[vr x_, vr s_, vi 0, vi 5, .val .null, u_] []) := c0
 have c1 : Kt p e below s₁ st0 (mkF m 1 #[vr x_, vr s_, vi 0, vi 5, .val .null, u_] [(rr x_)]) := fun t k => by
  refine c0 t ?_
  show S_ p e below s₁ m 0 #[vr x_, vr s_, vi 0, vi 5, .val .null, u_] [] t
  refine XS.aloadN X0.here hx rfl (hb hby d3_0) rfl rfl ?_
  exact k
 obtain ⟨T2, X2, e2, c2⟩ := kinit X0 hx hZ hown (w14 hw) (w15 hw) (w16 hw) e0 c1 rfl hml rfl rfl (hb hby d3_1) 0 (own_w rfl) (by decide) (by decide)
 have c3 : Kt p e below T2 st0 (mkF m 27 #[vr x_, vr s_, vi 0, vi 5, .val .null, u_] []) := fun t k => by
  refine c2 t ?_
  show S_ p e below T2 m 4 #[vr x_, vr s_, vi 0, vi 5, .val .null, u_] [] t
  refine XS.iloadN X2.here hx rfl (hb hby d3_4) rfl ?_
  show S_ p e below T2 m 5 #[vr x_, vr s_, vi 0, vi 5, .val .null, u_] [(ii 5)] t
  refine yI X2.here hx rfl 5 27 rfl (hb hby d3_5) rfl rfl ?_
  exact k
 obtain ⟨T4, X4, e4, c4⟩ := kgetS X2 hx hZ hown (host := "") (Or.inl (w17 hw)) Via.refl e2 (ZS5_.ext O0.2) c3 rfl (hb hby d3_27)
 have c5 : Kt p e below T4 st0 (mkF m 36 #[vr x_, vr s_, vi 0, vi 5, .val .null, u_] [(ii 5), (ii 0), (rr s_)]) := fun t k => by
  refine c4 t ?_
  show S_ p e below T4 m 30 #[vr x_, vr s_, vi 0, vi 5, .val .null, u_] [(.int z_)] t
  refine XS.ifNo X4.here hx rfl (hb hby d3_30) rfl ((if0 _ _).trans (feq hz_).1) ?_
  show S_ p e below T4 m 33 #[vr x_, vr s_, vi 0, vi 5, .val .null, u_] [] t
  refine XS.aloadN X4.here hx rfl (hb hby d3_33) rfl rfl ?_
  show S_ p e below T4 m 34 #[vr x_, vr s_, vi 0, vi 5, .val .null, u_] [(rr s_)] t
  refine XS.iloadN X4.here hx rfl (hb hby d3_34) rfl ?_
  show S_ p e below T4 m 35 #[vr x_, vr s_, vi 0, vi 5, .val .null, u_] [(ii 0), (rr s_)] t
  refine XS.iloadN X4.here hx rfl (hb hby d3_35) rfl ?_
  exact k
 obtain ⟨_, T6, L6, X6, hQ6, c6⟩ := kstat X4 hx hZ hown (w18 hw) (w19 hw) (w20 hw) (w21 hw) (rm_cmp3_error l Z a0 hw [] s_ ks_ h0 n0 O0 A4_) e4 c5 hml pd_pACIIrAB [(rr s_), (ii 0), (ii 5)] [] 0 (hb hby d3_36) rfl rfl rfl rfl rfl rfl
 obtain ⟨b7, k8, rfl, N9q, K10, p11, p12, p13⟩ := hQ6
 have N9 := Fr.app N0 N9q
 have o14 := O0.keep K10 all0
 have kp15 := kp0.trans K10 all0
 have z16 := Nat.le_trans kp0.1 p13
 have g17 := Nat.le_trans (Nat.le_trans (Nat.le_of_eq O0.1.symm) O0.2.1) p13
 have c18 : Kt p e below T6 st0 (mkF m 45 #[vr x_, vr s_, vi 0, vi 5, .val .null, vr b7] [(ii 5), (rr b7), (rr x_)]) := fun t k => by
  refine c6 t ?_
  show S_ p e below T6 m 39 #[vr x_, vr s_, vi 0, vi 5, .val .null, u_] [(rr b7)] t
  refine XS.astore X6.here hx rfl (hb hby d3_39) rfl rfl (l' := #[vr x_, vr s_, vi 0, vi 5, .val .null, vr b7]) rfl ?_
  show S_ p e below T6 m 41 #[vr x_, vr s_, vi 0, vi 5, .val .null, vr b7] [] t
  refine XS.aloadN X6.here hx rfl (hb hby d3_41) rfl rfl ?_
  show S_ p e below T6 m 42 #[vr x_, vr s_, vi 0, vi 5, .val .null, vr b7] [(rr x_)] t
  refine XS.aload X6.here hx rfl (hb hby d3_42) rfl rfl ?_
  show S_ p e below T6 m 44 #[vr x_, vr s_, vi 0, vi 5, .val .null, vr b7] [(rr b7), (rr x_)] t
  refine XS.iloadN X6.here hx rfl (hb hby d3_44) rfl ?_
  exact k
 obtain ⟨_, T19, L19, X19, hQ19, c19⟩ := kstat X6 hx hZ hown (w26 hw) (w27 hw) (w20 hw) (w28 hw) (rm_codl_5 l Z a0 hw [] b7 k8 [(ii 101), (ii 114), (ii 114), (ii 111), (ii 114)] T6.heap n0 o14 p11) rfl c18 hml pd_pABIrB [(rr b7), (ii 5)] [(rr x_)] 1 (hb hby d3_45) rfl rfl rfl rfl rfl rfl
 obtain ⟨rfl, N20q, K21⟩ := hQ19
 have N20 := Fr.app N9 N20q
 obtain ⟨T22, h22, X22, e22, W22, f23, o25, N24, c22⟩ := kput X19 hx hZ .byte hown (host := "") (Or.inl (w29 hw)) Via.refl K21 (F2_.keep K10 nin0) (E0_.keep K10) (Or.inr ⟨(w30 hw), rfl, hnm⟩) (w5 hw) c19 rfl rfl (hb hby d3_48) (by decide) rfl rfl o14 N20 G3_
 have kp26 := kp15.wr W22 (Or.inl (List.mem_of_getElem? (i := 0) rfl))
 have f27 := (F1_.keep K10 nin0).other W22 (Or.inr (slot_ne (Or.inr (w32 hw)) (Or.inr (w30 hw)) (by decide) (t := (.array .byte)) (t' := .byte) (by decide) (by decide)))
 have c28 : Kt p e below T22 st0 (mkF m 54 #[vr x_, vr s_, vi 0, vi 5, .val .null, vr b7] [(rr b7), (rr x_)]) := fun t k => by
  refine c22 t ?_
  show S_ p e below T22 m 51 #[vr x_, vr s_, vi 0, vi 5, .val .null, vr b7] [] t
  refine XS.aloadN X22.here hx rfl (hb hby d3_51) rfl rfl ?_
  show S_ p e below T22 m 52 #[vr x_, vr s_, vi 0, vi 5, .val .null, vr b7] [(rr x_)] t
  refine XS.aload X22.here hx rfl (hb hby d3_52) rfl rfl ?_
  exact k
 obtain ⟨T29, h29, X29, e29, W29, f30, o32, N31, c29⟩ := kput X22 hx hZ (.array .byte) hown (host := "") (Or.inl (w31 hw)) Via.refl e22 f27 ((E0_.keep K10).wr W22) (Or.inr ⟨(w32 hw), rfl, hnm⟩) (w5 hw) c28 rfl rfl (hb hby d3_54) (by decide) rfl rfl o25 N24 G3_
 have kp33 := kp26.wr W29 (Or.inl (List.mem_of_getElem? (i := 0) rfl))
 have f34 := f23.other W29 (Or.inr (slot_ne (Or.inr (w30 hw)) (Or.inr (w32 hw)) (by decide) (t := .byte) (t' := (.array .byte)) (by decide) (by decide)))
 have q35 := Ne.symm (Nat.ne_of_lt (Nat.lt_of_lt_of_le E0_.lt p13))
 obtain ⟨fs, hr, hrun, hended, hW, hsame⟩ := X29.leave (v := none) (fun _ => rfl)
 refine ⟨_, _, c29 _ ?_, hrun, hended, _, _, rfl, ?_, ⟨_, rfl⟩, hW, hsame.mono (by decide) (by decide)⟩
 ·show S_ p e below T29 m 57 #[vr x_, vr s_, vi 0, vi 5, .val .null, vr b7] [] _
  exact X29.returnOut hx Bd.returns (hb hby d3_57) hr
 ·show Q_str4_error Z x_ s_ ks_ z_ h0 n0 _ T29.heap _
  rw [e29]
  exact ⟨rfl, N31, kp33, (((E0_.keep K10).wr W22).wr W29), f34, b7, k8, f30, ((p11.other W22 q35).other W29 q35), g17, z16⟩
theorem ef_str1_error (m : MethodId) (x_ : Addr) (s_ : Addr) : entryFrame m #[(rr x_), (rr s_)] 2 = mkF m 0 #[vr x_, vr s_] [] := by first | (simp [entryFrame, mkF, argsToLocals, Value.category]; done) | rfl
def Q_str1_error (Z : State) (x_ : Addr) (s_ : Addr) (ks_ : ClassId) (z_ : Int32) (h0 : Heap) (n0 : Nat) (v : Option Value) (h : Heap) (L : List Loc) : Prop := v = none ∧ Fr n0 L ∧ Keep h0 h [x_] ∧ Exa Z h x_ nm1 ∧ Fld Z h x_ nm1 "coder" "B" (ii 0) ∧ ∃ (b_ : Addr), ∃ (kb_ : ClassId), Fld Z h x_ nm1 "value" "[B" (rr b_) ∧ Arv Z h b_ kb_ .byte (5 : Int32) [(ii 101), (ii 114), (ii 114), (ii 111), (ii 114)] (ii 0) ∧ n0 ≤ b_ ∧ h0.size ≤ b_
set_option maxRecDepth 65536 in
set_option maxHeartbeats 40000000 in
theorem rm_str1_error (l : Launch) (Z : State) (a0 : Array Value) (hw : HW Z a0) (ws : List Jvm.Cond) (x_ : Addr) (s_ : Addr) (ks_ : ClassId) (z_ : Int32) (h0 : Heap) (n0 : Nat) (O0 : Old Z n0 h0) (E0_ : Exa Z h0 x_ nm1) (F1_ : Fld Z h0 x_ nm1 "value" "[B" .null) (F2_ : Fld Z h0 x_ nm1 "coder" "B" (ii 0)) (G3_ : n0 ≤ x_) (A4_ : Arv Z h0 s_ ks_ .char (5 : Int32) [(ii 101), (ii 114), (ii 114), (ii 111), (ii 114)] (ii 0)) (ZS5_ : Sta Z Z.heap nm1 "COMPACT_STRINGS" "Z" (.int z_)) (hz_ : ¬ (z_ = (0 : Int32))) :
  MFP l Z (⟨nm1, "<init>", "([C)V"⟩ : MethodName) jdk_42_method_3_code 2 none ({ frames := 3, cells := 1, slots := 5, locals := 52 } : Room) ws #[(rr x_), (rr s_)] h0 (Q_str1_error Z x_ s_ ks_ z_ h0 n0) := by
 refine MetFree.of_bodySF (plainFor_of_name pn_java_lang_String) hisR ?_
 intro p e s m args below meth c s₁ Bd hml0 hP hK
 obtain ⟨rfl, hZ, hh⟩ := hP
 have hx := Bd.exec
 have hby := Bd.bytes
 have hml : c.maxLocals = 2 := hml0
 have hown : s.vm.findClass nm1 = some m.cls := findClass_of_methodNamed Bd.named
 have hnm := (name_of_methodNamed Bd.named Bd.method).1
 have X0 : Stand p l e ({ frames := 3, cells := 1, slots := 5, locals := 52 } : Room) s m #[(rr x_), (rr s_)] below meth c s₁ [] 0 0 := Stand.of_body Bd
 have e0 : s₁.heap = h0 := by rw [← hh, Bd.state]; rfl
 have N0 := Fr.nil n0
 have kp0 : Keep h0 h0 [x_] := Keep.refl _ _
 have c0 : ∀ t, S_ p e below s₁ m 0 #[vr x_, vr s_] [] t → Steps p.tables e below (s₁.setTop (entryFrame m #[(rr x_), (rr s_)] 2)) t := fun t k => castTop (ef_str1_error m x_ s_) k
 generalize s₁.setTop (entryFrame m #[(rr x_), (rr s_)] 2) = st0 at c0 ⊢
 replace c0 : Kt p e below s₁ st0 (mkF m 0 #[vr x_, vr s_] []) := c0
 have c1 : Kt p e below s₁ st0 (mkF m 6 #[vr x_, vr s_] [.null, (ii 5), (ii 0), (rr s_), (rr x_)]) := fun t k => by
  refine c0 t ?_
  show S_ p e below s₁ m 0 #[vr x_, vr s_] [] t
  refine XS.aloadN X0.here hx rfl (hb hby d4_0) rfl rfl ?_
  show S_ p e below s₁ m 1 #[vr x_, vr s_] [(rr x_)] t
  refine XS.aloadN X0.here hx rfl (hb hby d4_1) rfl rfl ?_
  show S_ p e below s₁ m 2 #[vr x_, vr s_] [(rr s_), (rr x_)] t
  refine XS.iconst X0.here hx rfl (hb hby d4_2) ?_
  show S_ p e below s₁ m 3 #[vr x_, vr s_] [(ii 0), (rr s_), (rr x_)] t
  refine XS.aloadN X0.here hx rfl (hb hby d4_3) rfl rfl ?_
  show S_ p e below s₁ m 4 #[vr x_, vr s_] [(rr s_), (ii 0), (rr s_), (rr x_)] t
  refine ldLen X0 hx hZ e0 A4_ rfl rfl (hb hby d4_4) ?_
  show S_ p e below s₁ m 5 #[vr x_, vr s_] [(ii 5), (ii 0), (rr s_), (rr x_)] t
  refine XS.aconstNull X0.here hx rfl (hb hby d4_5) ?_
  exact k
 obtain ⟨_, T2, L2, X2, hQ2, c2⟩ := kspec X0 hx hZ hown (w10 hw) (w11 hw) (w6 hw) (w13 hw) (rm_str4_error l Z a0 hw [] x_ s_ ks_ z_ h0 n0 O0 E0_ F1_ F2_ G3_ A4_ ZS5_ hz_) e0 c1 hml pd_pACIILjava_lang_Void_rV x_ [(rr s_), (ii 0), (ii 5), .null] [] 0 (hb hby d4_6) rfl rfl rfl rfl rfl rfl
 obtain ⟨rfl, N3q, K4, p5, p6, b7, k8, p9, p10, p11, p12⟩ := hQ2
 have N3 := Fr.app N0 N3q
 have o13 := O0.keep K4 (allS G3_ all0)
 have kp14 := kp0.trans K4 (allS (Or.inl (List.mem_of_getElem? (i := 0) rfl)) all0)
 have z15 := Nat.le_trans kp0.1 p12
 have g16 := Nat.le_trans (Nat.le_trans (Nat.le_of_eq O0.1.symm) O0.2.1) p12
 obtain ⟨fs, hr, hrun, hended, hW, hsame⟩ := X2.leave (v := none) (fun _ => rfl)
 refine ⟨_, _, c2 _ ?_, hrun, hended, _, _, rfl, ?_, ⟨_, rfl⟩, hW, hsame.mono (by decide) (by decide)⟩
 ·show S_ p e below T2 m 9 #[vr x_, vr s_] [] _
  exact X2.returnOut hx Bd.returns (hb hby d4_9) hr
 ·show Q_str1_error Z x_ s_ ks_ z_ h0 n0 _ T2.heap _
  exact ⟨rfl, N3, kp14, p5, p6, b7, k8, p9, p10, g16, z15⟩
theorem pn_java_lang_StringLatin1 : plainName nm6 = true := by first | (simp [plainName, overriddenIn]; done) | decide +kernel
theorem d5_0 : decode jdk_43_method_13_code 0 = .ok (.aload_n 0, 1) := by decide +kernel
theorem d5_1 : decode jdk_43_method_13_code 1 = .ok (.arraylength, 1) := by decide +kernel
theorem d5_2 : decode jdk_43_method_13_code 2 = .ok (.aload_n 1, 1) := by decide +kernel
theorem d5_3 : decode jdk_43_method_13_code 3 = .ok (.arraylength, 1) := by decide +kernel
theorem d5_4 : decode jdk_43_method_13_code 4 = .ok (.if_icmp .ne 30, 3) := by decide +kernel
theorem d5_7 : decode jdk_43_method_13_code 7 = .ok (.iconst 0, 1) := by decide +kernel
theorem d5_8 : decode jdk_43_method_13_code 8 = .ok (.istore_n 2, 1) := by decide +kernel
theorem d5_9 : decode jdk_43_method_13_code 9 = .ok (.iload_n 2, 1) := by decide +kernel
theorem d5_10 : decode jdk_43_method_13_code 10 = .ok (.aload_n 0, 1) := by decide +kernel
theorem d5_11 : decode jdk_43_method_13_code 11 = .ok (.arraylength, 1) := by decide +kernel
theorem d5_12 : decode jdk_43_method_13_code 12 = .ok (.if_icmp .ge 20, 3) := by decide +kernel
theorem d5_15 : decode jdk_43_method_13_code 15 = .ok (.aload_n 0, 1) := by decide +kernel
theorem d5_16 : decode jdk_43_method_13_code 16 = .ok (.iload_n 2, 1) := by decide +kernel
theorem d5_17 : decode jdk_43_method_13_code 17 = .ok (.baload, 1) := by decide +kernel
theorem d5_18 : decode jdk_43_method_13_code 18 = .ok (.aload_n 1, 1) := by decide +kernel
theorem d5_19 : decode jdk_43_method_13_code 19 = .ok (.iload_n 2, 1) := by decide +kernel
theorem d5_20 : decode jdk_43_method_13_code 20 = .ok (.baload, 1) := by decide +kernel
theorem d5_21 : decode jdk_43_method_13_code 21 = .ok (.if_icmp .eq 5, 3) := by decide +kernel
theorem d5_26 : decode jdk_43_method_13_code 26 = .ok (.iinc 2 1, 3) := by decide +kernel
theorem d5_29 : decode jdk_43_method_13_code 29 = .ok (.goto (-20), 3) := by decide +kernel
theorem d5_32 : decode jdk_43_method_13_code 32 = .ok (.iconst 1, 1) := by decide +kernel
theorem d5_33 : decode jdk_43_method_13_code 33 = .ok (.ireturn, 1) := by decide +kernel
theorem ef_l1eq_new (m : MethodId) (bx_ : Addr) (by_ : Addr) : entryFrame m #[(rr bx_), (rr by_)] 3 = mkF m 0 #[vr bx_, vr by_, u_] [] := by first | (simp [entryFrame, mkF, argsToLocals, Value.category]; done) | rfl
def Q_l1eq_new (Z : State) (bx_ : Addr) (kx_ : ClassId) (by_ : Addr) (ky_ : ClassId) (h0 : Heap) (n0 : Nat) (v : Option Value) (h : Heap) (L : List Loc) : Prop := v = some (ii 1) ∧ Fr n0 L ∧ h = h0
set_option maxRecDepth 65536 in
set_option maxHeartbeats 40000000 in
theorem rm_l1eq_new (l : Launch) (Z : State) (a0 : Array Value) (hw : HW Z a0) (ws : List Jvm.Cond) (bx_ : Addr) (kx_ : ClassId) (by_ : Addr) (ky_ : ClassId) (h0 : Heap) (n0 : Nat) (O0 : Old Z n0 h0) (A0_ : Arv Z h0 bx_ kx_ .byte (3 : Int32) [(ii 110), (ii 101), (ii 119)] (ii 0)) (A1_ : Arv Z h0 by_ ky_ .byte (3 : Int32) [(ii 110), (ii 101), (ii 119)] (ii 0)) :
  MFP l Z (⟨nm6, "equals", "([B[B)Z"⟩ : MethodName) jdk_43_method_13_code 3 (some .boolean) ({ frames := 0, cells := 0, slots := 0, locals := 0 } : Room) ws #[(rr bx_), (rr by_)] h0 (Q_l1eq_new Z bx_ kx_ by_ ky_ h0 n0) := by
 refine MetFree.of_bodySF (plainFor_of_name pn_java_lang_StringLatin1) hisR ?_
 intro p e s m args below meth c s₁ Bd hml0 hP hK
 obtain ⟨rfl, hZ, hh⟩ := hP
 have hx := Bd.exec
 have hby := Bd.bytes
 have hml : c.maxLocals = 3 := hml0
 have hown : s.vm.findClass nm6 = some m.cls := findClass_of_methodNamed Bd.named
 have hnm := (name_of_methodNamed Bd.named Bd.method).1
 have X0 : Stand p l e ({ frames := 0, cells := 0, slots := 0, locals := 0 } : Room) s m #[(rr bx_), (rr by_)] below meth c s₁ [] 0 0 := Stand.of_body Bd
 have e0 : s₁.heap = h0 := by rw [← hh, Bd.state]; rfl
 have N0 := Fr.nil n0
 have kp0 : Keep h0 h0 [] := Keep.refl _ _
 have c0 : ∀ t, S_ p e below s₁ m 0 #[vr bx_, vr by_, u_] [] t → Steps p.tables e below (s₁.setTop (entryFrame m #[(rr bx_), (rr by_)] 3)) t := fun t k => castTop (ef_l1eq_new m bx_ by_) k
 generalize s₁.setTop (entryFrame m #[(rr bx_), (rr by_)] 3) = st0 at c0 ⊢
 replace c0 : Kt p e below s₁ st0 (mkF m 0 #[vr bx_, vr by_, u_] []) := c0
 obtain ⟨fs, hr, hrun, hended, hW, hsame⟩ := X0.leave (v := some (ii 1)) (fun h => by rw [Bd.returns] at h; cases h)
 refine ⟨_, _, c0 _ ?_, hrun, hended, _, _, rfl, ?_, ⟨_, rfl⟩, hW, hsame.mono (by decide) (by decide)⟩
 ·show S_ p e below s₁ m 0 #[vr bx_, vr by_, u_] [] _
  refine XS.aloadN X0.here hx rfl (hb hby d5_0) rfl rfl ?_
  show S_ p e below s₁ m 1 #[vr bx_, vr by_, u_] [(rr bx_)] _
  refine ldLen X0 hx hZ e0 A0_ rfl rfl (hb hby d5_1) ?_
  show S_ p e below s₁ m 2 #[vr bx_, vr by_, u_] [(ii 3)] _
  refine XS.aloadN X0.here hx rfl (hb hby d5_2) rfl rfl ?_
  show S_ p e below s₁ m 3 #[vr bx_, vr by_, u_] [(rr by_), (ii 3)] _
  refine ldLen X0 hx hZ e0 A1_ rfl rfl (hb hby d5_3) ?_
  show S_ p e below s₁ m 4 #[vr bx_, vr by_, u_] [(ii 3), (ii 3)] _
  refine XS.icmpNo X0.here hx rfl (hb hby d5_4) rfl rfl ?_
  show S_ p e below s₁ m 7 #[vr bx_, vr by_, u_] [] _
  refine XS.iconst X0.here hx rfl (hb hby d5_7) ?_
  show S_ p e below s₁ m 8 #[vr bx_, vr by_, u_] [(ii 0)] _
  refine XS.istoreN X0.here hx rfl (hb hby d5_8) rfl (l' := #[vr bx_, vr by_, vi 0]) rfl ?_
  show S_ p e below s₁ m 9 #[vr bx_, vr by_, vi 0] [] _
  refine XS.iloadN X0.here hx rfl (hb hby d5_9) rfl ?_
  show S_ p e below s₁ m 10 #[vr bx_, vr by_, vi 0] [(ii 0)] _
  refine XS.aloadN X0.here hx rfl (hb hby d5_10) rfl rfl ?_
  show S_ p e below s₁ m 11 #[vr bx_, vr by_, vi 0] [(rr bx_), (ii 0)] _
  refine ldLen X0 hx hZ e0 A0_ rfl rfl (hb hby d5_11) ?_
  show S_ p e below s₁ m 12 #[vr bx_, vr by_, vi 0] [(ii 3), (ii 0)] _
  refine XS.icmpNo X0.here hx rfl (hb hby d5_12) rfl rfl ?_
  show S_ p e below s₁ m 15 #[vr bx_, vr by_, vi 0] [] _
  refine XS.aloadN X0.here hx rfl (hb hby d5_15) rfl rfl ?_
  show S_ p e below s₁ m 16 #[vr bx_, vr by_, vi 0] [(rr bx_)] _
  refine XS.iloadN X0.here hx rfl (hb hby d5_16) rfl ?_
  show S_ p e below s₁ m 17 #[vr bx_, vr by_, vi 0] [(ii 0), (rr bx_)] _
  refine ldB X0 hx hZ e0 A0_ (v := (ii 110)) (by decide) (by decide) rfl rfl rfl (hb hby d5_17) ?_
  show S_ p e below s₁ m 18 #[vr bx_, vr by_, vi 0] [(ii 110)] _
  refine XS.aloadN X0.here hx rfl (hb hby d5_18) rfl rfl ?_
  show S_ p e below s₁ m 19 #[vr bx_, vr by_, vi 0] [(rr by_), (ii 110)] _
  refine XS.iloadN X0.here hx rfl (hb hby d5_19) rfl ?_
  show S_ p e below s₁ m 20 #[vr bx_, vr by_, vi 0] [(ii 0), (rr by_), (ii 110)] _
  refine ldB X0 hx hZ e0 A1_ (v := (ii 110)) (by decide) (by decide) rfl rfl rfl (hb hby d5_20) ?_
  show S_ p e below s₁ m 21 #[vr bx_, vr by_, vi 0] [(ii 110), (ii 110)] _
  refine yC X0.here hx rfl 21 26 rfl (hb hby d5_21) rfl rfl ?_
  show S_ p e below s₁ m 26 #[vr bx_, vr by_, vi 0] [] _
  refine XS.iinc X0.here hx rfl (hb hby d5_26) rfl (l' := #[vr bx_, vr by_, vi 1]) rfl ?_
  show S_ p e below s₁ m 29 #[vr bx_, vr by_, vi 1] [] _
  refine yG X0.here hx rfl 29 9 rfl (hb hby d5_29) ?_
  show S_ p e below s₁ m 9 #[vr bx_, vr by_, vi 1] [] _
  refine XS.iloadN X0.here hx rfl (hb hby d5_9) rfl ?_
  show S_ p e below s₁ m 10 #[vr bx_, vr by_, vi 1] [(ii 1)] _
  refine XS.aloadN X0.here hx rfl (hb hby d5_10) rfl rfl ?_
  show S_ p e below s₁ m 11 #[vr bx_, vr by_, vi 1] [(rr bx_), (ii 1)] _
  refine ldLen X0 hx hZ e0 A0_ rfl rfl (hb hby d5_11) ?_
  show S_ p e below s₁ m 12 #[vr bx_, vr by_, vi 1] [(ii 3), (ii 1)] _
  refine XS.icmpNo X0.here hx rfl (hb hby d5_12) rfl rfl ?_
  show S_ p e below s₁ m 15 #[vr bx_, vr by_, vi 1] [] _
  refine XS.aloadN X0.here hx rfl (hb hby d5_15) rfl rfl ?_
  show S_ p e below s₁ m 16 #[vr bx_, vr by_, vi 1] [(rr bx_)] _
  refine XS.iloadN X0.here hx rfl (hb hby d5_16) rfl ?_
  show S_ p e below s₁ m 17 #[vr bx_, vr by_, vi 1] [(ii 1), (rr bx_)] _
  refine ldB X0 hx hZ e0 A0_ (v := (ii 101)) (by decide) (by decide) rfl rfl rfl (hb hby d5_17) ?_
  show S_ p e below s₁ m 18 #[vr bx_, vr by_, vi 1] [(ii 101)] _
  refine XS.aloadN X0.here hx rfl (hb hby d5_18) rfl rfl ?_
  show S_ p e below s₁ m 19 #[vr bx_, vr by_, vi 1] [(rr by_), (ii 101)] _
  refine XS.iloadN X0.here hx rfl (hb hby d5_19) rfl ?_
  show S_ p e below s₁ m 20 #[vr bx_, vr by_, vi 1] [(ii 1), (rr by_), (ii 101)] _
  refine ldB X0 hx hZ e0 A1_ (v := (ii 101)) (by decide) (by decide) rfl rfl rfl (hb hby d5_20) ?_
  show S_ p e below s₁ m 21 #[vr bx_, vr by_, vi 1] [(ii 101), (ii 101)] _
  refine yC X0.here hx rfl 21 26 rfl (hb hby d5_21) rfl rfl ?_
  show S_ p e below s₁ m 26 #[vr bx_, vr by_, vi 1] [] _
  refine XS.iinc X0.here hx rfl (hb hby d5_26) rfl (l' := #[vr bx_, vr by_, vi 2]) rfl ?_
  show S_ p e below s₁ m 29 #[vr bx_, vr by_, vi 2] [] _
  refine yG X0.here hx rfl 29 9 rfl (hb hby d5_29) ?_
  show S_ p e below s₁ m 9 #[vr bx_, vr by_, vi 2] [] _
  refine XS.iloadN X0.here hx rfl (hb hby d5_9) rfl ?_
  show S_ p e below s₁ m 10 #[vr bx_, vr by_, vi 2] [(ii 2)] _
  refine XS.aloadN X0.here hx rfl (hb hby d5_10) rfl rfl ?_
  show S_ p e below s₁ m 11 #[vr bx_, vr by_, vi 2] [(rr bx_), (ii 2)] _
  refine ldLen X0 hx hZ e0 A0_ rfl rfl (hb hby d5_11) ?_
  show S_ p e below s₁ m 12 #[vr bx_, vr by_, vi 2] [(ii 3), (ii 2)] _
  refine XS.icmpNo X0.here hx rfl (hb hby d5_12) rfl rfl ?_
  show S_ p e below s₁ m 15 #[vr bx_, vr by_, vi 2] [] _
  refine XS.aloadN X0.here hx rfl (hb hby d5_15) rfl rfl ?_
  show S_ p e below s₁ m 16 #[vr bx_, vr by_, vi 2] [(rr bx_)] _
  refine XS.iloadN X0.here hx rfl (hb hby d5_16) rfl ?_
  show S_ p e below s₁ m 17 #[vr bx_, vr by_, vi 2] [(ii 2), (rr bx_)] _
  refine ldB X0 hx hZ e0 A0_ (v := (ii 119)) (by decide) (by decide) rfl rfl rfl (hb hby d5_17) ?_
  show S_ p e below s₁ m 18 #[vr bx_, vr by_, vi 2] [(ii 119)] _
  refine XS.aloadN X0.here hx rfl (hb hby d5_18) rfl rfl ?_
  show S_ p e below s₁ m 19 #[vr bx_, vr by_, vi 2] [(rr by_), (ii 119)] _
  refine XS.iloadN X0.here hx rfl (hb hby d5_19) rfl ?_
  show S_ p e below s₁ m 20 #[vr bx_, vr by_, vi 2] [(ii 2), (rr by_), (ii 119)] _
  refine ldB X0 hx hZ e0 A1_ (v := (ii 119)) (by decide) (by decide) rfl rfl rfl (hb hby d5_20) ?_
  show S_ p e below s₁ m 21 #[vr bx_, vr by_, vi 2] [(ii 119), (ii 119)] _
  refine yC X0.here hx rfl 21 26 rfl (hb hby d5_21) rfl rfl ?_
  show S_ p e below s₁ m 26 #[vr bx_, vr by_, vi 2] [] _
  refine XS.iinc X0.here hx rfl (hb hby d5_26) rfl (l' := #[vr bx_, vr by_, vi 3]) rfl ?_
  show S_ p e below s₁ m 29 #[vr bx_, vr by_, vi 3] [] _
  refine yG X0.here hx rfl 29 9 rfl (hb hby d5_29) ?_
  show S_ p e below s₁ m 9 #[vr bx_, vr by_, vi 3] [] _
  refine XS.iloadN X0.here hx rfl (hb hby d5_9) rfl ?_
  show S_ p e below s₁ m 10 #[vr bx_, vr by_, vi 3] [(ii 3)] _
  refine XS.aloadN X0.here hx rfl (hb hby d5_10) rfl rfl ?_
  show S_ p e below s₁ m 11 #[vr bx_, vr by_, vi 3] [(rr bx_), (ii 3)] _
  refine ldLen X0 hx hZ e0 A0_ rfl rfl (hb hby d5_11) ?_
  show S_ p e below s₁ m 12 #[vr bx_, vr by_, vi 3] [(ii 3), (ii 3)] _
  refine yC X0.here hx rfl 12 32 rfl (hb hby d5_12) rfl rfl ?_
  show S_ p e below s₁ m 32 #[vr bx_, vr by_, vi 3] [] _
  refine XS.iconst X0.here hx rfl (hb hby d5_32) ?_
  show S_ p e below s₁ m 33 #[vr bx_, vr by_, vi 3] [(ii 1)] _
  exact retN X0 hx (t := .boolean) Bd.returns (by simp) (hb hby d5_33) hr
 ·show Q_l1eq_new Z bx_ kx_ by_ ky_ h0 n0 _ s₁.heap _
  rw [e0]
  exact ⟨rfl, N0, rfl⟩
theorem d6_0 : decode jdk_42_method_66_code 0 = .ok (.aload_n 0, 1) := by decide +kernel
theorem d6_1 : decode jdk_42_method_66_code 1 = .ok (.aload_n 1, 1) := by decide +kernel
theorem d6_2 : decode jdk_42_method_66_code 2 = .ok (.if_acmp .ne 5, 3) := by decide +kernel
theorem d6_7 : decode jdk_42_method_66_code 7 = .ok (.aload_n 1, 1) := by decide +kernel
theorem d6_8 : decode jdk_42_method_66_code 8 = .ok (.instanceof 10, 3) := by decide +kernel
theorem d6_11 : decode jdk_42_method_66_code 11 = .ok (.ifCond .eq 43, 3) := by decide +kernel
theorem d6_14 : decode jdk_42_method_66_code 14 = .ok (.aload_n 1, 1) := by decide +kernel
theorem d6_15 : decode jdk_42_method_66_code 15 = .ok (.checkcast 10, 3) := by decide +kernel
theorem d6_18 : decode jdk_42_method_66_code 18 = .ok (.astore_n 2, 1) := by decide +kernel
theorem d6_19 : decode jdk_42_method_66_code 19 = .ok (.getstatic 38, 3) := by decide +kernel
theorem d6_22 : decode jdk_42_method_66_code 22 = .ok (.ifCond .eq 14, 3) := by decide +kernel
theorem d6_25 : decode jdk_42_method_66_code 25 = .ok (.aload_n 0, 1) := by decide +kernel
theorem d6_26 : decode jdk_42_method_66_code 26 = .ok (.getfield 15, 3) := by decide +kernel
theorem d6_29 : decode jdk_42_method_66_code 29 = .ok (.aload_n 2, 1) := by decide +kernel
theorem d6_30 : decode jdk_42_method_66_code 30 = .ok (.getfield 15, 3) := by decide +kernel
theorem d6_33 : decode jdk_42_method_66_code 33 = .ok (.if_icmp .ne 21, 3) := by decide +kernel
theorem d6_36 : decode jdk_42_method_66_code 36 = .ok (.aload_n 0, 1) := by decide +kernel
theorem d6_37 : decode jdk_42_method_66_code 37 = .ok (.getfield 9, 3) := by decide +kernel
theorem d6_40 : decode jdk_42_method_66_code 40 = .ok (.aload_n 2, 1) := by decide +kernel
theorem d6_41 : decode jdk_42_method_66_code 41 = .ok (.getfield 9, 3) := by decide +kernel
theorem d6_44 : decode jdk_42_method_66_code 44 = .ok (.invokestatic 541, 3) := by decide +kernel
theorem pd_pABABrZ : parseMethodDescriptor "([B[B)Z" = some ⟨[(.array .byte), (.array .byte)], some .boolean⟩ := by decide +kernel
theorem d6_47 : decode jdk_42_method_66_code 47 = .ok (.ifCond .eq 7, 3) := by decide +kernel
theorem d6_50 : decode jdk_42_method_66_code 50 = .ok (.iconst 1, 1) := by decide +kernel
theorem d6_51 : decode jdk_42_method_66_code 51 = .ok (.goto 4, 3) := by decide +kernel
theorem d6_55 : decode jdk_42_method_66_code 55 = .ok (.ireturn, 1) := by decide +kernel
theorem ef_seq_new (m : MethodId) (x_ : Addr) (y_ : Addr) : entryFrame m #[(rr x_), (rr y_)] 3 = mkF m 0 #[vr x_, vr y_, u_] [] := by first | (simp [entryFrame, mkF, argsToLocals, Value.category]; done) | rfl
def Q_seq_new (Z : State) (x_ : Addr) (bx_ : Addr) (kx_ : ClassId) (y_ : Addr) (by_ : Addr) (ky_ : ClassId) (z_ : Int32) (h0 : Heap) (n0 : Nat) (v : Option Value) (h : Heap) (L : List Loc) : Prop := v = some (ii 1) ∧ Fr n0 L ∧ h = h0
set_option maxRecDepth 65536 in
set_option maxHeartbeats 40000000 in
theorem rm_seq_new (l : Launch) (Z : State) (a0 : Array Value) (hw : HW Z a0) (ws : List Jvm.Cond) (x_ : Addr) (bx_ : Addr) (kx_ : ClassId) (y_ : Addr) (by_ : Addr) (ky_ : ClassId) (z_ : Int32) (h0 : Heap) (n0 : Nat) (O0 : Old Z n0 h0) (E0_ : Exa Z h0 x_ nm1) (F1_ : Fld Z h0 x_ nm1 "coder" "B" (ii 0)) (F2_ : Fld Z h0 x_ nm1 "value" "[B" (rr bx_)) (A3_ : Arv Z h0 bx_ kx_ .byte (3 : Int32) [(ii 110), (ii 101), (ii 119)] (ii 0)) (E4_ : Exa Z h0 y_ nm1) (F5_ : Fld Z h0 y_ nm1 "coder" "B" (ii 0)) (F6_ : Fld Z h0 y_ nm1 "value" "[B" (rr by_)) (A7_ : Arv Z h0 by_ ky_ .byte (3 : Int32) [(ii 110), (ii 101), (ii 119)] (ii 0)) (ZS8_ : Sta Z Z.heap nm1 "COMPACT_STRINGS" "Z" (.int z_)) (hz_ : ¬ (z_ = (0 : Int32))) (NE10_ : x_ ≠ y_) :
  MFP l Z (⟨nm1, "equals", nm9⟩ : MethodName) jdk_42_method_66_code 3 (some .boolean) ({ frames := 1, cells := 0, slots := 0, locals := 14 } : Room) ws #[(rr x_), (rr y_)] h0 (Q_seq_new Z x_ bx_ kx_ y_ by_ ky_ z_ h0 n0) := by
 refine MetFree.of_bodySF (plainFor_of_name pn_java_lang_String) hisR ?_
 intro p e s m args below meth c s₁ Bd hml0 hP hK
 obtain ⟨rfl, hZ, hh⟩ := hP
 have hx := Bd.exec
 have hby := Bd.bytes
 have hml : c.maxLocals = 3 := hml0
 have hown : s.vm.findClass nm1 = some m.cls := findClass_of_methodNamed Bd.named
 have hnm := (name_of_methodNamed Bd.named Bd.method).1
 have X0 : Stand p l e ({ frames := 1, cells := 0, slots := 0, locals := 14 } : Room) s m #[(rr x_), (rr y_)] below meth c s₁ [] 0 0 := Stand.of_body Bd
 have e0 : s₁.heap = h0 := by rw [← hh, Bd.state]; rfl
 have N0 := Fr.nil n0
 have kp0 : Keep h0 h0 [] := Keep.refl _ _
 have c0 : ∀ t, S_ p e below s₁ m 0 #[vr x_, vr y_, u_] [] t → Steps p.tables e below (s₁.setTop (entryFrame m #[(rr x_), (rr y_)] 3)) t := fun t k => castTop (ef_seq_new m x_ y_) k
 generalize s₁.setTop (entryFrame m #[(rr x_), (rr y_)] 3) = st0 at c0 ⊢
 replace c0 : Kt p e below s₁ st0 (mkF m 0 #[vr x_, vr y_, u_] []) := c0
 have c1 : Kt p e below s₁ st0 (mkF m 8 #[vr x_, vr y_, u_] [(rr y_)]) := fun t k => by
  refine c0 t ?_
  show S_ p e below s₁ m 0 #[vr x_, vr y_, u_] [] t
  refine XS.aloadN X0.here hx rfl (hb hby d6_0) rfl rfl ?_
  show S_ p e below s₁ m 1 #[vr x_, vr y_, u_] [(rr x_)] t
  refine XS.aloadN X0.here hx rfl (hb hby d6_1) rfl rfl ?_
  show S_ p e below s₁ m 2 #[vr x_, vr y_, u_] [(rr y_), (rr x_)] t
  refine Jvm.RoadKit.acmp (g := (mkF m 2 #[vr x_, vr y_, u_] [(rr y_), (rr x_)])) X0 hx rfl rfl rfl (pc0 := 2) (pc' := 7) (same := false) rfl (hb hby d6_2) rfl (decide_eq_false fun q => NE10_ (Value.ref.inj q)) (by decide) (by decide) ?_
  show S_ p e below s₁ m 7 #[vr x_, vr y_, u_] [] t
  refine XS.aloadN X0.here hx rfl (hb hby d6_7) rfl rfl ?_
  exact k
 obtain ⟨T2, X2, e2, c2⟩ := kinst X0 hx hZ hown (w61 hw) e0 (Ins.self E4_) c1 rfl rfl (hb hby d6_8)
 have c3 : Kt p e below T2 st0 (mkF m 15 #[vr x_, vr y_, u_] [(rr y_)]) := fun t k => by
  refine c2 t ?_
  show S_ p e below T2 m 11 #[vr x_, vr y_, u_] [(ii 1)] t
  refine XS.ifNo X2.here hx rfl (hb hby d6_11) rfl rfl ?_
  show S_ p e below T2 m 14 #[vr x_, vr y_, u_] [] t
  refine XS.aloadN X2.here hx rfl (hb hby d6_14) rfl rfl ?_
  exact k
 obtain ⟨T4, X4, e4, c4⟩ := kcast X2 hx hZ hown (w61 hw) e2 (Ins.self E4_) c3 rfl rfl (hb hby d6_15)
 have c5 : Kt p e below T4 st0 (mkF m 19 #[vr x_, vr y_, vr y_] []) := fun t k => by
  refine c4 t ?_
  show S_ p e below T4 m 18 #[vr x_, vr y_, u_] [(rr y_)] t
  refine XS.astoreN X4.here hx rfl (hb hby d6_18) rfl rfl (l' := #[vr x_, vr y_, vr y_]) rfl ?_
  exact k
 obtain ⟨T6, X6, e6, c6⟩ := kgetS X4 hx hZ hown (host := "") (Or.inl (w17 hw)) Via.refl e4 (ZS8_.ext O0.2) c5 rfl (hb hby d6_19)
 have c7 : Kt p e below T6 st0 (mkF m 26 #[vr x_, vr y_, vr y_] [(rr x_)]) := fun t k => by
  refine c6 t ?_
  show S_ p e below T6 m 22 #[vr x_, vr y_, vr y_] [(.int z_)] t
  refine XS.ifNo X6.here hx rfl (hb hby d6_22) rfl ((if0 _ _).trans (feq hz_).1) ?_
  show S_ p e below T6 m 25 #[vr x_, vr y_, vr y_] [] t
  refine XS.aloadN X6.here hx rfl (hb hby d6_25) rfl rfl ?_
  exact k
 obtain ⟨T8, X8, e8, c8⟩ := kget X6 hx hZ hown (host := "") (Or.inl (w29 hw)) Via.refl e6 F1_ c7 rfl rfl (hb hby d6_26)
 have c9 : Kt p e below T8 st0 (mkF m 30 #[vr x_, vr y_, vr y_] [(rr y_), (ii 0)]) := fun t k => by
  refine c8 t ?_
  show S_ p e below T8 m 29 #[vr x_, vr y_, vr y_] [(ii 0)] t
  refine XS.aloadN X8.here hx rfl (hb hby d6_29) rfl rfl ?_
  exact k
 obtain ⟨T10, X10, e10, c10⟩ := kget X8 hx hZ hown (host := "") (Or.inl (w29 hw)) Via.refl e8 F5_ c9 rfl rfl (hb hby d6_30)
 have c11 : Kt p e below T10 st0 (mkF m 37 #[vr x_, vr y_, vr y_] [(rr x_)]) := fun t k => by
  refine c10 t ?_
  show S_ p e below T10 m 33 #[vr x_, vr y_, vr y_] [(ii 0), (ii 0)] t
  refine XS.icmpNo X10.here hx rfl (hb hby d6_33) rfl rfl ?_
  show S_ p e below T10 m 36 #[vr x_, vr y_, vr y_] [] t
  refine XS.aloadN X10.here hx rfl (hb hby d6_36) rfl rfl ?_
  exact k
 obtain ⟨T12, X12, e12, c12⟩ := kget X10 hx hZ hown (host := "") (Or.inl (w31 hw)) Via.refl e10 F2_ c11 rfl rfl (hb hby d6_37)
 have c13 : Kt p e below T12 st0 (mkF m 41 #[vr x_, vr y_, vr y_] [(rr y_), (rr bx_)]) := fun t k => by
  refine c12 t ?_
  show S_ p e below T12 m 40 #[vr x_, vr y_, vr y_] [(rr bx_)] t
  refine XS.aloadN X12.here hx rfl (hb hby d6_40) rfl rfl ?_
  exact k
 obtain ⟨T14, X14, e14, c14⟩ := kget X12 hx hZ hown (host := "") (Or.inl (w31 hw)) Via.refl e12 F6_ c13 rfl rfl (hb hby d6_41)
 obtain ⟨_, T15, L15, X15, hQ15, c15⟩ := kstat X14 hx hZ hown (w62 hw) (w63 hw) (w64 hw) (w65 hw) (rm_l1eq_new l Z a0 hw [] bx_ kx_ by_ ky_ h0 n0 O0 A3_ A7_) e14 c14 hml pd_pABABrZ [(rr bx_), (rr by_)] [] 0 (hb hby d6_44) rfl rfl rfl rfl rfl rfl
 obtain ⟨rfl, N16q, K17⟩ := hQ15
 have N16 := Fr.app N0 N16q
 obtain ⟨fs, hr, hrun, hended, hW, hsame⟩ := X15.leave (v := some (ii 1)) (fun h => by rw [Bd.returns] at h; cases h)
 refine ⟨_, _, c15 _ ?_, hrun, hended, _, _, rfl, ?_, ⟨_, rfl⟩, hW, hsame.mono (by decide) (by decide)⟩
 ·show S_ p e below T15 m 47 #[vr x_, vr y_, vr y_] [(ii 1)] _
  refine XS.ifNo X15.here hx rfl (hb hby d6_47) rfl rfl ?_
  show S_ p e below T15 m 50 #[vr x_, vr y_, vr y_] [] _
  refine XS.iconst X15.here hx rfl (hb hby d6_50) ?_
  show S_ p e below T15 m 51 #[vr x_, vr y_, vr y_] [(ii 1)] _
  refine yG X15.here hx rfl 51 55 rfl (hb hby d6_51) ?_
  show S_ p e below T15 m 55 #[vr x_, vr y_, vr y_] [(ii 1)] _
  exact retN X15 hx (t := .boolean) Bd.returns (by simp) (hb hby d6_55) hr
 ·show Q_seq_new Z x_ bx_ kx_ y_ by_ ky_ z_ h0 n0 _ T15.heap _
  rw [K17]
  exact ⟨rfl, N16, rfl⟩
theorem ef_l1eq_changed (m : MethodId) (bx_ : Addr) (by_ : Addr) : entryFrame m #[(rr bx_), (rr by_)] 3 = mkF m 0 #[vr bx_, vr by_, u_] [] := by first | (simp [entryFrame, mkF, argsToLocals, Value.category]; done) | rfl
def Q_l1eq_changed (Z : State) (bx_ : Addr) (kx_ : ClassId) (by_ : Addr) (ky_ : ClassId) (h0 : Heap) (n0 : Nat) (v : Option Value) (h : Heap) (L : List Loc) : Prop := v = some (ii 1) ∧ Fr n0 L ∧ h = h0
set_option maxRecDepth 65536 in
set_option maxHeartbeats 40000000 in
theorem rm_l1eq_changed (l : Launch) (Z : State) (a0 : Array Value) (hw : HW Z a0) (ws : List Jvm.Cond) (bx_ : Addr) (kx_ : ClassId) (by_ : Addr) (ky_ : ClassId) (h0 : Heap) (n0 : Nat) (O0 : Old Z n0 h0) (A0_ : Arv Z h0 bx_ kx_ .byte (7 : Int32) [(ii 99), (ii 104), (ii 97), (ii 110), (ii 103), (ii 101), (ii 100)] (ii 0)) (A1_ : Arv Z h0 by_ ky_ .byte (7 : Int32) [(ii 99), (ii 104), (ii 97), (ii 110), (ii 103), (ii 101), (ii 100)] (ii 0)) :
  MFP l Z (⟨nm6, "equals", "([B[B)Z"⟩ : MethodName) jdk_43_method_13_code 3 (some .boolean) ({ frames := 0, cells := 0, slots := 0, locals := 0 } : Room) ws #[(rr bx_), (rr by_)] h0 (Q_l1eq_changed Z bx_ kx_ by_ ky_ h0 n0) := by
 refine MetFree.of_bodySF (plainFor_of_name pn_java_lang_StringLatin1) hisR ?_
 intro p e s m args below meth c s₁ Bd hml0 hP hK
 obtain ⟨rfl, hZ, hh⟩ := hP
 have hx := Bd.exec
 have hby := Bd.bytes
 have hml : c.maxLocals = 3 := hml0
 have hown : s.vm.findClass nm6 = some m.cls := findClass_of_methodNamed Bd.named
 have hnm := (name_of_methodNamed Bd.named Bd.method).1
 have X0 : Stand p l e ({ frames := 0, cells := 0, slots := 0, locals := 0 } : Room) s m #[(rr bx_), (rr by_)] below meth c s₁ [] 0 0 := Stand.of_body Bd
 have e0 : s₁.heap = h0 := by rw [← hh, Bd.state]; rfl
 have N0 := Fr.nil n0
 have kp0 : Keep h0 h0 [] := Keep.refl _ _
 have c0 : ∀ t, S_ p e below s₁ m 0 #[vr bx_, vr by_, u_] [] t → Steps p.tables e below (s₁.setTop (entryFrame m #[(rr bx_), (rr by_)] 3)) t := fun t k => castTop (ef_l1eq_changed m bx_ by_) k
 generalize s₁.setTop (entryFrame m #[(rr bx_), (rr by_)] 3) = st0 at c0 ⊢
 replace c0 : Kt p e below s₁ st0 (mkF m 0 #[vr bx_, vr by_, u_] []) := c0
 obtain ⟨fs, hr, hrun, hended, hW, hsame⟩ := X0.leave (v := some (ii 1)) (fun h => by rw [Bd.returns] at h; cases h)
 refine ⟨_, _, c0 _ ?_, hrun, hended, _, _, rfl, ?_, ⟨_, rfl⟩, hW, hsame.mono (by decide) (by decide)⟩
 ·show S_ p e below s₁ m 0 #[vr bx_, vr by_, u_] [] _
  refine XS.aloadN X0.here hx rfl (hb hby d5_0) rfl rfl ?_
  show S_ p e below s₁ m 1 #[vr bx_, vr by_, u_] [(rr bx_)] _
  refine ldLen X0 hx hZ e0 A0_ rfl rfl (hb hby d5_1) ?_
  show S_ p e below s₁ m 2 #[vr bx_, vr by_, u_] [(ii 7)] _
  refine XS.aloadN X0.here hx rfl (hb hby d5_2) rfl rfl ?_
  show S_ p e below s₁ m 3 #[vr bx_, vr by_, u_] [(rr by_), (ii 7)] _
  refine ldLen X0 hx hZ e0 A1_ rfl rfl (hb hby d5_3) ?_
  show S_ p e below s₁ m 4 #[vr bx_, vr by_, u_] [(ii 7), (ii 7)] _
  refine XS.icmpNo X0.here hx rfl (hb hby d5_4) rfl rfl ?_
  show S_ p e below s₁ m 7 #[vr bx_, vr by_, u_] [] _
  refine XS.iconst X0.here hx rfl (hb hby d5_7) ?_
  show S_ p e below s₁ m 8 #[vr bx_, vr by_, u_] [(ii 0)] _
  refine XS.istoreN X0.here hx rfl (hb hby d5_8) rfl (l' := #[vr bx_, vr by_, vi 0]) rfl ?_
  show S_ p e below s₁ m 9 #[vr bx_, vr by_, vi 0] [] _
  refine XS.iloadN X0.here hx rfl (hb hby d5_9) rfl ?_
  show S_ p e below s₁ m 10 #[vr bx_, vr by_, vi 0] [(ii 0)] _
  refine XS.aloadN X0.here hx rfl (hb hby d5_10) rfl rfl ?_
  show S_ p e below s₁ m 11 #[vr bx_, vr by_, vi 0] [(rr bx_), (ii 0)] _
  refine ldLen X0 hx hZ e0 A0_ rfl rfl (hb hby d5_11) ?_
  show S_ p e below s₁ m 12 #[vr bx_, vr by_, vi 0] [(ii 7), (ii 0)] _
  refine XS.icmpNo X0.here hx rfl (hb hby d5_12) rfl rfl ?_
  show S_ p e below s₁ m 15 #[vr bx_, vr by_, vi 0] [] _
  refine XS.aloadN X0.here hx rfl (hb hby d5_15) rfl rfl ?_
  show S_ p e below s₁ m 16 #[vr bx_, vr by_, vi 0] [(rr bx_)] _
  refine XS.iloadN X0.here hx rfl (hb hby d5_16) rfl ?_
  show S_ p e below s₁ m 17 #[vr bx_, vr by_, vi 0] [(ii 0), (rr bx_)] _
  refine ldB X0 hx hZ e0 A0_ (v := (ii 99)) (by decide) (by decide) rfl rfl rfl (hb hby d5_17) ?_
  show S_ p e below s₁ m 18 #[vr bx_, vr by_, vi 0] [(ii 99)] _
  refine XS.aloadN X0.here hx rfl (hb hby d5_18) rfl rfl ?_
  show S_ p e below s₁ m 19 #[vr bx_, vr by_, vi 0] [(rr by_), (ii 99)] _
  refine XS.iloadN X0.here hx rfl (hb hby d5_19) rfl ?_
  show S_ p e below s₁ m 20 #[vr bx_, vr by_, vi 0] [(ii 0), (rr by_), (ii 99)] _
  refine ldB X0 hx hZ e0 A1_ (v := (ii 99)) (by decide) (by decide) rfl rfl rfl (hb hby d5_20) ?_
  show S_ p e below s₁ m 21 #[vr bx_, vr by_, vi 0] [(ii 99), (ii 99)] _
  refine yC X0.here hx rfl 21 26 rfl (hb hby d5_21) rfl rfl ?_
  show S_ p e below s₁ m 26 #[vr bx_, vr by_, vi 0] [] _
  refine XS.iinc X0.here hx rfl (hb hby d5_26) rfl (l' := #[vr bx_, vr by_, vi 1]) rfl ?_
  show S_ p e below s₁ m 29 #[vr bx_, vr by_, vi 1] [] _
  refine yG X0.here hx rfl 29 9 rfl (hb hby d5_29) ?_
  show S_ p e below s₁ m 9 #[vr bx_, vr by_, vi 1] [] _
  refine XS.iloadN X0.here hx rfl (hb hby d5_9) rfl ?_
  show S_ p e below s₁ m 10 #[vr bx_, vr by_, vi 1] [(ii 1)] _
  refine XS.aloadN X0.here hx rfl (hb hby d5_10) rfl rfl ?_
  show S_ p e below s₁ m 11 #[vr bx_, vr by_, vi 1] [(rr bx_), (ii 1)] _
  refine ldLen X0 hx hZ e0 A0_ rfl rfl (hb hby d5_11) ?_
  show S_ p e below s₁ m 12 #[vr bx_, vr by_, vi 1] [(ii 7), (ii 1)] _
  refine XS.icmpNo X0.here hx rfl (hb hby d5_12) rfl rfl ?_
  show S_ p e below s₁ m 15 #[vr bx_, vr by_, vi 1] [] _
  refine XS.aloadN X0.here hx rfl (hb hby d5_15) rfl rfl ?_
  show S_ p e below s₁ m 16 #[vr bx_, vr by_, vi 1] [(rr bx_)] _
  refine XS.iloadN X0.here hx rfl (hb hby d5_16) rfl ?_
  show S_ p e below s₁ m 17 #[vr bx_, vr by_, vi 1] [(ii 1), (rr bx_)] _
  refine ldB X0 hx hZ e0 A0_ (v := (ii 104)) (by decide) (by decide) rfl rfl rfl (hb hby d5_17) ?_
  show S_ p e below s₁ m 18 #[vr bx_, vr by_, vi 1] [(ii 104)] _
  refine XS.aloadN X0.here hx rfl (hb hby d5_18) rfl rfl ?_
  show S_ p e below s₁ m 19 #[vr bx_, vr by_, vi 1] [(rr by_), (ii 104)] _
  refine XS.iloadN X0.here hx rfl (hb hby d5_19) rfl ?_
  show S_ p e below s₁ m 20 #[vr bx_, vr by_, vi 1] [(ii 1), (rr by_), (ii 104)] _
  refine ldB X0 hx hZ e0 A1_ (v := (ii 104)) (by decide) (by decide) rfl rfl rfl (hb hby d5_20) ?_
  show S_ p e below s₁ m 21 #[vr bx_, vr by_, vi 1] [(ii 104), (ii 104)] _
  refine yC X0.here hx rfl 21 26 rfl (hb hby d5_21) rfl rfl ?_
  show S_ p e below s₁ m 26 #[vr bx_, vr by_, vi 1] [] _
  refine XS.iinc X0.here hx rfl (hb hby d5_26) rfl (l' := #[vr bx_, vr by_, vi 2]) rfl ?_
  show S_ p e below s₁ m 29 #[vr bx_, vr by_, vi 2] [] _
  refine yG X0.here hx rfl 29 9 rfl (hb hby d5_29) ?_
  show S_ p e below s₁ m 9 #[vr bx_, vr by_, vi 2] [] _
  refine XS.iloadN X0.here hx rfl (hb hby d5_9) rfl ?_
  show S_ p e below s₁ m 10 #[vr bx_, vr by_, vi 2] [(ii 2)] _
  refine XS.aloadN X0.here hx rfl (hb hby d5_10) rfl rfl ?_
  show S_ p e below s₁ m 11 #[vr bx_, vr by_, vi 2] [(rr bx_), (ii 2)] _
  refine ldLen X0 hx hZ e0 A0_ rfl rfl (hb hby d5_11) ?_
  show S_ p e below s₁ m 12 #[vr bx_, vr by_, vi 2] [(ii 7), (ii 2)] _
  refine XS.icmpNo X0.here hx rfl (hb hby d5_12) rfl rfl ?_
  show S_ p e below s₁ m 15 #[vr bx_, vr by_, vi 2] [] _
  refine XS.aloadN X0.here hx rfl (hb hby d5_15) rfl rfl ?_
  show S_ p e below s₁ m 16 #[vr bx_, vr by_, vi 2] [(rr bx_)] _
  refine XS.iloadN X0.here hx rfl (hb hby d5_16) rfl ?_
  show S_ p e below s₁ m 17 #[vr bx_, vr by_, vi 2] [(ii 2), (rr bx_)] _
  refine ldB X0 hx hZ e0 A0_ (v := (ii 97)) (by decide) (by decide) rfl rfl rfl (hb hby d5_17) ?_
  show S_ p e below s₁ m 18 #[vr bx_, vr by_, vi 2] [(ii 97)] _
  refine XS.aloadN X0.here hx rfl (hb hby d5_18) rfl rfl ?_
  show S_ p e below s₁ m 19 #[vr bx_, vr by_, vi 2] [(rr by_), (ii 97)] _
  refine XS.iloadN X0.here hx rfl (hb hby d5_19) rfl ?_
  show S_ p e below s₁ m 20 #[vr bx_, vr by_, vi 2] [(ii 2), (rr by_), (ii 97)] _
  refine ldB X0 hx hZ e0 A1_ (v := (ii 97)) (by decide) (by decide) rfl rfl rfl (hb hby d5_20) ?_
  show S_ p e below s₁ m 21 #[vr bx_, vr by_, vi 2] [(ii 97), (ii 97)] _
  refine yC X0.here hx rfl 21 26 rfl (hb hby d5_21) rfl rfl ?_
  show S_ p e below s₁ m 26 #[vr bx_, vr by_, vi 2] [] _
  refine XS.iinc X0.here hx rfl (hb hby d5_26) rfl (l' := #[vr bx_, vr by_, vi 3]) rfl ?_
  show S_ p e below s₁ m 29 #[vr bx_, vr by_, vi 3] [] _
  refine yG X0.here hx rfl 29 9 rfl (hb hby d5_29) ?_
  show S_ p e below s₁ m 9 #[vr bx_, vr by_, vi 3] [] _
  refine XS.iloadN X0.here hx rfl (hb hby d5_9) rfl ?_
  show S_ p e below s₁ m 10 #[vr bx_, vr by_, vi 3] [(ii 3)] _
  refine XS.aloadN X0.here hx rfl (hb hby d5_10) rfl rfl ?_
  show S_ p e below s₁ m 11 #[vr bx_, vr by_, vi 3] [(rr bx_), (ii 3)] _
  refine ldLen X0 hx hZ e0 A0_ rfl rfl (hb hby d5_11) ?_
  show S_ p e below s₁ m 12 #[vr bx_, vr by_, vi 3] [(ii 7), (ii 3)] _
  refine XS.icmpNo X0.here hx rfl (hb hby d5_12) rfl rfl ?_
  show S_ p e below s₁ m 15 #[vr bx_, vr by_, vi 3] [] _
  refine XS.aloadN X0.here hx rfl (hb hby d5_15) rfl rfl ?_
  show S_ p e below s₁ m 16 #[vr bx_, vr by_, vi 3] [(rr bx_)] _
  refine XS.iloadN X0.here hx rfl (hb hby d5_16) rfl ?_
  show S_ p e below s₁ m 17 #[vr bx_, vr by_, vi 3] [(ii 3), (rr bx_)] _
  refine ldB X0 hx hZ e0 A0_ (v := (ii 110)) (by decide) (by decide) rfl rfl rfl (hb hby d5_17) ?_
  show S_ p e below s₁ m 18 #[vr bx_, vr by_, vi 3] [(ii 110)] _
  refine XS.aloadN X0.here hx rfl (hb hby d5_18) rfl rfl ?_
  show S_ p e below s₁ m 19 #[vr bx_, vr by_, vi 3] [(rr by_), (ii 110)] _
  refine XS.iloadN X0.here hx rfl (hb hby d5_19) rfl ?_
  show S_ p e below s₁ m 20 #[vr bx_, vr by_, vi 3] [(ii 3), (rr by_), (ii 110)] _
  refine ldB X0 hx hZ e0 A1_ (v := (ii 110)) (by decide) (by decide) rfl rfl rfl (hb hby d5_20) ?_
  show S_ p e below s₁ m 21 #[vr bx_, vr by_, vi 3] [(ii 110), (ii 110)] _
  refine yC X0.here hx rfl 21 26 rfl (hb hby d5_21) rfl rfl ?_
  show S_ p e below s₁ m 26 #[vr bx_, vr by_, vi 3] [] _
  refine XS.iinc X0.here hx rfl (hb hby d5_26) rfl (l' := #[vr bx_, vr by_, vi 4]) rfl ?_
  show S_ p e below s₁ m 29 #[vr bx_, vr by_, vi 4] [] _
  refine yG X0.here hx rfl 29 9 rfl (hb hby d5_29) ?_
  show S_ p e below s₁ m 9 #[vr bx_, vr by_, vi 4] [] _
  refine XS.iloadN X0.here hx rfl (hb hby d5_9) rfl ?_
  show S_ p e below s₁ m 10 #[vr bx_, vr by_, vi 4] [(ii 4)] _
  refine XS.aloadN X0.here hx rfl (hb hby d5_10) rfl rfl ?_
  show S_ p e below s₁ m 11 #[vr bx_, vr by_, vi 4] [(rr bx_), (ii 4)] _
  refine ldLen X0 hx hZ e0 A0_ rfl rfl (hb hby d5_11) ?_
  show S_ p e below s₁ m 12 #[vr bx_, vr by_, vi 4] [(ii 7), (ii 4)] _
  refine XS.icmpNo X0.here hx rfl (hb hby d5_12) rfl rfl ?_
  show S_ p e below s₁ m 15 #[vr bx_, vr by_, vi 4] [] _
  refine XS.aloadN X0.here hx rfl (hb hby d5_15) rfl rfl ?_
  show S_ p e below s₁ m 16 #[vr bx_, vr by_, vi 4] [(rr bx_)] _
  refine XS.iloadN X0.here hx rfl (hb hby d5_16) rfl ?_
  show S_ p e below s₁ m 17 #[vr bx_, vr by_, vi 4] [(ii 4), (rr bx_)] _
  refine ldB X0 hx hZ e0 A0_ (v := (ii 103)) (by decide) (by decide) rfl rfl rfl (hb hby d5_17) ?_
  show S_ p e below s₁ m 18 #[vr bx_, vr by_, vi 4] [(ii 103)] _
  refine XS.aloadN X0.here hx rfl (hb hby d5_18) rfl rfl ?_
  show S_ p e below s₁ m 19 #[vr bx_, vr by_, vi 4] [(rr by_), (ii 103)] _
  refine XS.iloadN X0.here hx rfl (hb hby d5_19) rfl ?_
  show S_ p e below s₁ m 20 #[vr bx_, vr by_, vi 4] [(ii 4), (rr by_), (ii 103)] _
  refine ldB X0 hx hZ e0 A1_ (v := (ii 103)) (by decide) (by decide) rfl rfl rfl (hb hby d5_20) ?_
  show S_ p e below s₁ m 21 #[vr bx_, vr by_, vi 4] [(ii 103), (ii 103)] _
  refine yC X0.here hx rfl 21 26 rfl (hb hby d5_21) rfl rfl ?_
  show S_ p e below s₁ m 26 #[vr bx_, vr by_, vi 4] [] _
  refine XS.iinc X0.here hx rfl (hb hby d5_26) rfl (l' := #[vr bx_, vr by_, vi 5]) rfl ?_
  show S_ p e below s₁ m 29 #[vr bx_, vr by_, vi 5] [] _
  refine yG X0.here hx rfl 29 9 rfl (hb hby d5_29) ?_
  show S_ p e below s₁ m 9 #[vr bx_, vr by_, vi 5] [] _
  refine XS.iloadN X0.here hx rfl (hb hby d5_9) rfl ?_
  show S_ p e below s₁ m 10 #[vr bx_, vr by_, vi 5] [(ii 5)] _
  refine XS.aloadN X0.here hx rfl (hb hby d5_10) rfl rfl ?_
  show S_ p e below s₁ m 11 #[vr bx_, vr by_, vi 5] [(rr bx_), (ii 5)] _
  refine ldLen X0 hx hZ e0 A0_ rfl rfl (hb hby d5_11) ?_
  show S_ p e below s₁ m 12 #[vr bx_, vr by_, vi 5] [(ii 7), (ii 5)] _
  refine XS.icmpNo X0.here hx rfl (hb hby d5_12) rfl rfl ?_
  show S_ p e below s₁ m 15 #[vr bx_, vr by_, vi 5] [] _
  refine XS.aloadN X0.here hx rfl (hb hby d5_15) rfl rfl ?_
  show S_ p e below s₁ m 16 #[vr bx_, vr by_, vi 5] [(rr bx_)] _
  refine XS.iloadN X0.here hx rfl (hb hby d5_16) rfl ?_
  show S_ p e below s₁ m 17 #[vr bx_, vr by_, vi 5] [(ii 5), (rr bx_)] _
  refine ldB X0 hx hZ e0 A0_ (v := (ii 101)) (by decide) (by decide) rfl rfl rfl (hb hby d5_17) ?_
  show S_ p e below s₁ m 18 #[vr bx_, vr by_, vi 5] [(ii 101)] _
  refine XS.aloadN X0.here hx rfl (hb hby d5_18) rfl rfl ?_
  show S_ p e below s₁ m 19 #[vr bx_, vr by_, vi 5] [(rr by_), (ii 101)] _
  refine XS.iloadN X0.here hx rfl (hb hby d5_19) rfl ?_
  show S_ p e below s₁ m 20 #[vr bx_, vr by_, vi 5] [(ii 5), (rr by_), (ii 101)] _
  refine ldB X0 hx hZ e0 A1_ (v := (ii 101)) (by decide) (by decide) rfl rfl rfl (hb hby d5_20) ?_
  show S_ p e below s₁ m 21 #[vr bx_, vr by_, vi 5] [(ii 101), (ii 101)] _
  refine yC X0.here hx rfl 21 26 rfl (hb hby d5_21) rfl rfl ?_
  show S_ p e below s₁ m 26 #[vr bx_, vr by_, vi 5] [] _
  refine XS.iinc X0.here hx rfl (hb hby d5_26) rfl (l' := #[vr bx_, vr by_, vi 6]) rfl ?_
  show S_ p e below s₁ m 29 #[vr bx_, vr by_, vi 6] [] _
  refine yG X0.here hx rfl 29 9 rfl (hb hby d5_29) ?_
  show S_ p e below s₁ m 9 #[vr bx_, vr by_, vi 6] [] _
  refine XS.iloadN X0.here hx rfl (hb hby d5_9) rfl ?_
  show S_ p e below s₁ m 10 #[vr bx_, vr by_, vi 6] [(ii 6)] _
  refine XS.aloadN X0.here hx rfl (hb hby d5_10) rfl rfl ?_
  show S_ p e below s₁ m 11 #[vr bx_, vr by_, vi 6] [(rr bx_), (ii 6)] _
  refine ldLen X0 hx hZ e0 A0_ rfl rfl (hb hby d5_11) ?_
  show S_ p e below s₁ m 12 #[vr bx_, vr by_, vi 6] [(ii 7), (ii 6)] _
  refine XS.icmpNo X0.here hx rfl (hb hby d5_12) rfl rfl ?_
  show S_ p e below s₁ m 15 #[vr bx_, vr by_, vi 6] [] _
  refine XS.aloadN X0.here hx rfl (hb hby d5_15) rfl rfl ?_
  show S_ p e below s₁ m 16 #[vr bx_, vr by_, vi 6] [(rr bx_)] _
  refine XS.iloadN X0.here hx rfl (hb hby d5_16) rfl ?_
  show S_ p e below s₁ m 17 #[vr bx_, vr by_, vi 6] [(ii 6), (rr bx_)] _
  refine ldB X0 hx hZ e0 A0_ (v := (ii 100)) (by decide) (by decide) rfl rfl rfl (hb hby d5_17) ?_
  show S_ p e below s₁ m 18 #[vr bx_, vr by_, vi 6] [(ii 100)] _
  refine XS.aloadN X0.here hx rfl (hb hby d5_18) rfl rfl ?_
  show S_ p e below s₁ m 19 #[vr bx_, vr by_, vi 6] [(rr by_), (ii 100)] _
  refine XS.iloadN X0.here hx rfl (hb hby d5_19) rfl ?_
  show S_ p e below s₁ m 20 #[vr bx_, vr by_, vi 6] [(ii 6), (rr by_), (ii 100)] _
  refine ldB X0 hx hZ e0 A1_ (v := (ii 100)) (by decide) (by decide) rfl rfl rfl (hb hby d5_20) ?_
  show S_ p e below s₁ m 21 #[vr bx_, vr by_, vi 6] [(ii 100), (ii 100)] _
  refine yC X0.here hx rfl 21 26 rfl (hb hby d5_21) rfl rfl ?_
  show S_ p e below s₁ m 26 #[vr bx_, vr by_, vi 6] [] _
  refine XS.iinc X0.here hx rfl (hb hby d5_26) rfl (l' := #[vr bx_, vr by_, vi 7]) rfl ?_
  show S_ p e below s₁ m 29 #[vr bx_, vr by_, vi 7] [] _
  refine yG X0.here hx rfl 29 9 rfl (hb hby d5_29) ?_
  show S_ p e below s₁ m 9 #[vr bx_, vr by_, vi 7] [] _
  refine XS.iloadN X0.here hx rfl (hb hby d5_9) rfl ?_
  show S_ p e below s₁ m 10 #[vr bx_, vr by_, vi 7] [(ii 7)] _
  refine XS.aloadN X0.here hx rfl (hb hby d5_10) rfl rfl ?_
  show S_ p e below s₁ m 11 #[vr bx_, vr by_, vi 7] [(rr bx_), (ii 7)] _
  refine ldLen X0 hx hZ e0 A0_ rfl rfl (hb hby d5_11) ?_
  show S_ p e below s₁ m 12 #[vr bx_, vr by_, vi 7] [(ii 7), (ii 7)] _
  refine yC X0.here hx rfl 12 32 rfl (hb hby d5_12) rfl rfl ?_
  show S_ p e below s₁ m 32 #[vr bx_, vr by_, vi 7] [] _
  refine XS.iconst X0.here hx rfl (hb hby d5_32) ?_
  show S_ p e below s₁ m 33 #[vr bx_, vr by_, vi 7] [(ii 1)] _
  exact retN X0 hx (t := .boolean) Bd.returns (by simp) (hb hby d5_33) hr
 ·show Q_l1eq_changed Z bx_ kx_ by_ ky_ h0 n0 _ s₁.heap _
  rw [e0]
  exact ⟨rfl, N0, rfl⟩
theorem ef_seq_changed (m : MethodId) (x_ : Addr) (y_ : Addr) : entryFrame m #[(rr x_), (rr y_)] 3 = mkF m 0 #[vr x_, vr y_, u_] [] := by first | (simp [entryFrame, mkF, argsToLocals, Value.category]; done) | rfl
def Q_seq_changed (Z : State) (x_ : Addr) (bx_ : Addr) (kx_ : ClassId) (y_ : Addr) (by_ : Addr) (ky_ : ClassId) (z_ : Int32) (h0 : Heap) (n0 : Nat) (v : Option Value) (h : Heap) (L : List Loc) : Prop := v = some (ii 1) ∧ Fr n0 L ∧ h = h0
set_option maxRecDepth 65536 in
set_option maxHeartbeats 40000000 in
theorem rm_seq_changed (l : Launch) (Z : State) (a0 : Array Value) (hw : HW Z a0) (ws : List Jvm.Cond) (x_ : Addr) (bx_ : Addr) (kx_ : ClassId) (y_ : Addr) (by_ : Addr) (ky_ : ClassId) (z_ : Int32) (h0 : Heap) (n0 : Nat) (O0 : Old Z n0 h0) (E0_ : Exa Z h0 x_ nm1) (F1_ : Fld Z h0 x_ nm1 "coder" "B" (ii 0)) (F2_ : Fld Z h0 x_ nm1 "value" "[B" (rr bx_)) (A3_ : Arv Z h0 bx_ kx_ .byte (7 : Int32) [(ii 99), (ii 104), (ii 97), (ii 110), (ii 103), (ii 101), (ii 100)] (ii 0)) (E4_ : Exa Z h0 y_ nm1) (F5_ : Fld Z h0 y_ nm1 "coder" "B" (ii 0)) (F6_ : Fld Z h0 y_ nm1 "value" "[B" (rr by_)) (A7_ : Arv Z h0 by_ ky_ .byte (7 : Int32) [(ii 99), (ii 104), (ii 97), (ii 110), (ii 103), (ii 101), (ii 100)] (ii 0)) (ZS8_ : Sta Z Z.heap nm1 "COMPACT_STRINGS" "Z" (.int z_)) (hz_ : ¬ (z_ = (0 : Int32))) (NE10_ : x_ ≠ y_) :
  MFP l Z (⟨nm1, "equals", nm9⟩ : MethodName) jdk_42_method_66_code 3 (some .boolean) ({ frames := 1, cells := 0, slots := 0, locals := 14 } : Room) ws #[(rr x_), (rr y_)] h0 (Q_seq_changed Z x_ bx_ kx_ y_ by_ ky_ z_ h0 n0) := by
 refine MetFree.of_bodySF (plainFor_of_name pn_java_lang_String) hisR ?_
 intro p e s m args below meth c s₁ Bd hml0 hP hK
 obtain ⟨rfl, hZ, hh⟩ := hP
 have hx := Bd.exec
 have hby := Bd.bytes
 have hml : c.maxLocals = 3 := hml0
 have hown : s.vm.findClass nm1 = some m.cls := findClass_of_methodNamed Bd.named
 have hnm := (name_of_methodNamed Bd.named Bd.method).1
 have X0 : Stand p l e ({ frames := 1, cells := 0, slots := 0, locals := 14 } : Room) s m #[(rr x_), (rr y_)] below meth c s₁ [] 0 0 := Stand.of_body Bd
 have e0 : s₁.heap = h0 := by rw [← hh, Bd.state]; rfl
 have N0 := Fr.nil n0
 have kp0 : Keep h0 h0 [] := Keep.refl _ _
 have c0 : ∀ t, S_ p e below s₁ m 0 #[vr x_, vr y_, u_] [] t → Steps p.tables e below (s₁.setTop (entryFrame m #[(rr x_), (rr y_)] 3)) t := fun t k => castTop (ef_seq_changed m x_ y_) k
 generalize s₁.setTop (entryFrame m #[(rr x_), (rr y_)] 3) = st0 at c0 ⊢
 replace c0 : Kt p e below s₁ st0 (mkF m 0 #[vr x_, vr y_, u_] []) := c0
 have c1 : Kt p e below s₁ st0 (mkF m 8 #[vr x_, vr y_, u_] [(rr y_)]) := fun t k => by
  refine c0 t ?_
  show S_ p e below s₁ m 0 #[vr x_, vr y_, u_] [] t
  refine XS.aloadN X0.here hx rfl (hb hby d6_0) rfl rfl ?_
  show S_ p e below s₁ m 1 #[vr x_, vr y_, u_] [(rr x_)] t
  refine XS.aloadN X0.here hx rfl (hb hby d6_1) rfl rfl ?_
  show S_ p e below s₁ m 2 #[vr x_, vr y_, u_] [(rr y_), (rr x_)] t
  refine Jvm.RoadKit.acmp (g := (mkF m 2 #[vr x_, vr y_, u_] [(rr y_), (rr x_)])) X0 hx rfl rfl rfl (pc0 := 2) (pc' := 7) (same := false) rfl (hb hby d6_2) rfl (decide_eq_false fun q => NE10_ (Value.ref.inj q)) (by decide) (by decide) ?_
  show S_ p e below s₁ m 7 #[vr x_, vr y_, u_] [] t
  refine XS.aloadN X0.here hx rfl (hb hby d6_7) rfl rfl ?_
  exact k
 obtain ⟨T2, X2, e2, c2⟩ := kinst X0 hx hZ hown (w61 hw) e0 (Ins.self E4_) c1 rfl rfl (hb hby d6_8)
 have c3 : Kt p e below T2 st0 (mkF m 15 #[vr x_, vr y_, u_] [(rr y_)]) := fun t k => by
  refine c2 t ?_
  show S_ p e below T2 m 11 #[vr x_, vr y_, u_] [(ii 1)] t
  refine XS.ifNo X2.here hx rfl (hb hby d6_11) rfl rfl ?_
  show S_ p e below T2 m 14 #[vr x_, vr y_, u_] [] t
  refine XS.aloadN X2.here hx rfl (hb hby d6_14) rfl rfl ?_
  exact k
 obtain ⟨T4, X4, e4, c4⟩ := kcast X2 hx hZ hown (w61 hw) e2 (Ins.self E4_) c3 rfl rfl (hb hby d6_15)
 have c5 : Kt p e below T4 st0 (mkF m 19 #[vr x_, vr y_, vr y_] []) := fun t k => by
  refine c4 t ?_
  show S_ p e below T4 m 18 #[vr x_, vr y_, u_] [(rr y_)] t
  refine XS.astoreN X4.here hx rfl (hb hby d6_18) rfl rfl (l' := #[vr x_, vr y_, vr y_]) rfl ?_
  exact k
 obtain ⟨T6, X6, e6, c6⟩ := kgetS X4 hx hZ hown (host := "") (Or.inl (w17 hw)) Via.refl e4 (ZS8_.ext O0.2) c5 rfl (hb hby d6_19)
 have c7 : Kt p e below T6 st0 (mkF m 26 #[vr x_, vr y_, vr y_] [(rr x_)]) := fun t k => by
  refine c6 t ?_
  show S_ p e below T6 m 22 #[vr x_, vr y_, vr y_] [(.int z_)] t
  refine XS.ifNo X6.here hx rfl (hb hby d6_22) rfl ((if0 _ _).trans (feq hz_).1) ?_
  show S_ p e below T6 m 25 #[vr x_, vr y_, vr y_] [] t
  refine XS.aloadN X6.here hx rfl (hb hby d6_25) rfl rfl ?_
  exact k
 obtain ⟨T8, X8, e8, c8⟩ := kget X6 hx hZ hown (host := "") (Or.inl (w29 hw)) Via.refl e6 F1_ c7 rfl rfl (hb hby d6_26)
 have c9 : Kt p e below T8 st0 (mkF m 30 #[vr x_, vr y_, vr y_] [(rr y_), (ii 0)]) := fun t k => by
  refine c8 t ?_
  show S_ p e below T8 m 29 #[vr x_, vr y_, vr y_] [(ii 0)] t
  refine XS.aloadN X8.here hx rfl (hb hby d6_29) rfl rfl ?_
  exact k
 obtain ⟨T10, X10, e10, c10⟩ := kget X8 hx hZ hown (host := "") (Or.inl (w29 hw)) Via.refl e8 F5_ c9 rfl rfl (hb hby d6_30)
 have c11 : Kt p e below T10 st0 (mkF m 37 #[vr x_, vr y_, vr y_] [(rr x_)]) := fun t k => by
  refine c10 t ?_
  show S_ p e below T10 m 33 #[vr x_, vr y_, vr y_] [(ii 0), (ii 0)] t
  refine XS.icmpNo X10.here hx rfl (hb hby d6_33) rfl rfl ?_
  show S_ p e below T10 m 36 #[vr x_, vr y_, vr y_] [] t
  refine XS.aloadN X10.here hx rfl (hb hby d6_36) rfl rfl ?_
  exact k
 obtain ⟨T12, X12, e12, c12⟩ := kget X10 hx hZ hown (host := "") (Or.inl (w31 hw)) Via.refl e10 F2_ c11 rfl rfl (hb hby d6_37)
 have c13 : Kt p e below T12 st0 (mkF m 41 #[vr x_, vr y_, vr y_] [(rr y_), (rr bx_)]) := fun t k => by
  refine c12 t ?_
  show S_ p e below T12 m 40 #[vr x_, vr y_, vr y_] [(rr bx_)] t
  refine XS.aloadN X12.here hx rfl (hb hby d6_40) rfl rfl ?_
  exact k
 obtain ⟨T14, X14, e14, c14⟩ := kget X12 hx hZ hown (host := "") (Or.inl (w31 hw)) Via.refl e12 F6_ c13 rfl rfl (hb hby d6_41)
 obtain ⟨_, T15, L15, X15, hQ15, c15⟩ := kstat X14 hx hZ hown (w62 hw) (w63 hw) (w64 hw) (w65 hw) (rm_l1eq_changed l Z a0 hw [] bx_ kx_ by_ ky_ h0 n0 O0 A3_ A7_) e14 c14 hml pd_pABABrZ [(rr bx_), (rr by_)] [] 0 (hb hby d6_44) rfl rfl rfl rfl rfl rfl
 obtain ⟨rfl, N16q, K17⟩ := hQ15
 have N16 := Fr.app N0 N16q
 obtain ⟨fs, hr, hrun, hended, hW, hsame⟩ := X15.leave (v := some (ii 1)) (fun h => by rw [Bd.returns] at h; cases h)
 refine ⟨_, _, c15 _ ?_, hrun, hended, _, _, rfl, ?_, ⟨_, rfl⟩, hW, hsame.mono (by decide) (by decide)⟩
 ·show S_ p e below T15 m 47 #[vr x_, vr y_, vr y_] [(ii 1)] _
  refine XS.ifNo X15.here hx rfl (hb hby d6_47) rfl rfl ?_
  show S_ p e below T15 m 50 #[vr x_, vr y_, vr y_] [] _
  refine XS.iconst X15.here hx rfl (hb hby d6_50) ?_
  show S_ p e below T15 m 51 #[vr x_, vr y_, vr y_] [(ii 1)] _
  refine yG X15.here hx rfl 51 55 rfl (hb hby d6_51) ?_
  show S_ p e below T15 m 55 #[vr x_, vr y_, vr y_] [(ii 1)] _
  exact retN X15 hx (t := .boolean) Bd.returns (by simp) (hb hby d6_55) hr
 ·show Q_seq_changed Z x_ bx_ kx_ y_ by_ ky_ z_ h0 n0 _ T15.heap _
  rw [K17]
  exact ⟨rfl, N16, rfl⟩
theorem ef_l1eq_unchanged (m : MethodId) (bx_ : Addr) (by_ : Addr) : entryFrame m #[(rr bx_), (rr by_)] 3 = mkF m 0 #[vr bx_, vr by_, u_] [] := by first | (simp [entryFrame, mkF, argsToLocals, Value.category]; done) | rfl
def Q_l1eq_unchanged (Z : State) (bx_ : Addr) (kx_ : ClassId) (by_ : Addr) (ky_ : ClassId) (h0 : Heap) (n0 : Nat) (v : Option Value) (h : Heap) (L : List Loc) : Prop := v = some (ii 1) ∧ Fr n0 L ∧ h = h0
set_option maxRecDepth 65536 in
set_option maxHeartbeats 40000000 in
theorem rm_l1eq_unchanged (l : Launch) (Z : State) (a0 : Array Value) (hw : HW Z a0) (ws : List Jvm.Cond) (bx_ : Addr) (kx_ : ClassId) (by_ : Addr) (ky_ : ClassId) (h0 : Heap) (n0 : Nat) (O0 : Old Z n0 h0) (A0_ : Arv Z h0 bx_ kx_ .byte (9 : Int32) [(ii 117), (ii 110), (ii 99), (ii 104), (ii 97), (ii 110), (ii 103), (ii 101), (ii 100)] (ii 0)) (A1_ : Arv Z h0 by_ ky_ .byte (9 : Int32) [(ii 117), (ii 110), (ii 99), (ii 104), (ii 97), (ii 110), (ii 103), (ii 101), (ii 100)] (ii 0)) :
  MFP l Z (⟨nm6, "equals", "([B[B)Z"⟩ : MethodName) jdk_43_method_13_code 3 (some .boolean) ({ frames := 0, cells := 0, slots := 0, locals := 0 } : Room) ws #[(rr bx_), (rr by_)] h0 (Q_l1eq_unchanged Z bx_ kx_ by_ ky_ h0 n0) := by
 refine MetFree.of_bodySF (plainFor_of_name pn_java_lang_StringLatin1) hisR ?_
 intro p e s m args below meth c s₁ Bd hml0 hP hK
 obtain ⟨rfl, hZ, hh⟩ := hP
 have hx := Bd.exec
 have hby := Bd.bytes
 have hml : c.maxLocals = 3 := hml0
 have hown : s.vm.findClass nm6 = some m.cls := findClass_of_methodNamed Bd.named
 have hnm := (name_of_methodNamed Bd.named Bd.method).1
 have X0 : Stand p l e ({ frames := 0, cells := 0, slots := 0, locals := 0 } : Room) s m #[(rr bx_), (rr by_)] below meth c s₁ [] 0 0 := Stand.of_body Bd
 have e0 : s₁.heap = h0 := by rw [← hh, Bd.state]; rfl
 have N0 := Fr.nil n0
 have kp0 : Keep h0 h0 [] := Keep.refl _ _
 have c0 : ∀ t, S_ p e below s₁ m 0 #[vr bx_, vr by_, u_] [] t → Steps p.tables e below (s₁.setTop (entryFrame m #[(rr bx_), (rr by_)] 3)) t := fun t k => castTop (ef_l1eq_unchanged m bx_ by_) k
 generalize s₁.setTop (entryFrame m #[(rr bx_), (rr by_)] 3) = st0 at c0 ⊢
 replace c0 : Kt p e below s₁ st0 (mkF m 0 #[vr bx_, vr by_, u_] []) := c0
 obtain ⟨fs, hr, hrun, hended, hW, hsame⟩ := X0.leave (v := some (ii 1)) (fun h => by rw [Bd.returns] at h; cases h)
 refine ⟨_, _, c0 _ ?_, hrun, hended, _, _, rfl, ?_, ⟨_, rfl⟩, hW, hsame.mono (by decide) (by decide)⟩
 ·show S_ p e below s₁ m 0 #[vr bx_, vr by_, u_] [] _
  refine XS.aloadN X0.here hx rfl (hb hby d5_0) rfl rfl ?_
  show S_ p e below s₁ m 1 #[vr bx_, vr by_, u_] [(rr bx_)] _
  refine ldLen X0 hx hZ e0 A0_ rfl rfl (hb hby d5_1) ?_
  show S_ p e below s₁ m 2 #[vr bx_, vr by_, u_] [(ii 9)] _
  refine XS.aloadN X0.here hx rfl (hb hby d5_2) rfl rfl ?_
  show S_ p e below s₁ m 3 #[vr bx_, vr by_, u_] [(rr by_), (ii 9)] _
  refine ldLen X0 hx hZ e0 A1_ rfl rfl (hb hby d5_3) ?_
  show S_ p e below s₁ m 4 #[vr bx_, vr by_, u_] [(ii 9), (ii 9)] _
  refine XS.icmpNo X0.here hx rfl (hb hby d5_4) rfl rfl ?_
  show S_ p e below s₁ m 7 #[vr bx_, vr by_, u_] [] _
  refine XS.iconst X0.here hx rfl (hb hby d5_7) ?_
  show S_ p e below s₁ m 8 #[vr bx_, vr by_, u_] [(ii 0)] _
  refine XS.istoreN X0.here hx rfl (hb hby d5_8) rfl (l' := #[vr bx_, vr by_, vi 0]) rfl ?_
  show S_ p e below s₁ m 9 #[vr bx_, vr by_, vi 0] [] _
  refine XS.iloadN X0.here hx rfl (hb hby d5_9) rfl ?_
  show S_ p e below s₁ m 10 #[vr bx_, vr by_, vi 0] [(ii 0)] _
  refine XS.aloadN X0.here hx rfl (hb hby d5_10) rfl rfl ?_
  show S_ p e below s₁ m 11 #[vr bx_, vr by_, vi 0] [(rr bx_), (ii 0)] _
  refine ldLen X0 hx hZ e0 A0_ rfl rfl (hb hby d5_11) ?_
  show S_ p e below s₁ m 12 #[vr bx_, vr by_, vi 0] [(ii 9), (ii 0)] _
  refine XS.icmpNo X0.here hx rfl (hb hby d5_12) rfl rfl ?_
  show S_ p e below s₁ m 15 #[vr bx_, vr by_, vi 0] [] _
  refine XS.aloadN X0.here hx rfl (hb hby d5_15) rfl rfl ?_
  show S_ p e below s₁ m 16 #[vr bx_, vr by_, vi 0] [(rr bx_)] _
  refine XS.iloadN X0.here hx rfl (hb hby d5_16) rfl ?_
  show S_ p e below s₁ m 17 #[vr bx_, vr by_, vi 0] [(ii 0), (rr bx_)] _
  refine ldB X0 hx hZ e0 A0_ (v := (ii 117)) (by decide) (by decide) rfl rfl rfl (hb hby d5_17) ?_
  show S_ p e below s₁ m 18 #[vr bx_, vr by_, vi 0] [(ii 117)] _
  refine XS.aloadN X0.here hx rfl (hb hby d5_18) rfl rfl ?_
  show S_ p e below s₁ m 19 #[vr bx_, vr by_, vi 0] [(rr by_), (ii 117)] _
  refine XS.iloadN X0.here hx rfl (hb hby d5_19) rfl ?_
  show S_ p e below s₁ m 20 #[vr bx_, vr by_, vi 0] [(ii 0), (rr by_), (ii 117)] _
  refine ldB X0 hx hZ e0 A1_ (v := (ii 117)) (by decide) (by decide) rfl rfl rfl (hb hby d5_20) ?_
  show S_ p e below s₁ m 21 #[vr bx_, vr by_, vi 0] [(ii 117), (ii 117)] _
  refine yC X0.here hx rfl 21 26 rfl (hb hby d5_21) rfl rfl ?_
  show S_ p e below s₁ m 26 #[vr bx_, vr by_, vi 0] [] _
  refine XS.iinc X0.here hx rfl (hb hby d5_26) rfl (l' := #[vr bx_, vr by_, vi 1]) rfl ?_
  show S_ p e below s₁ m 29 #[vr bx_, vr by_, vi 1] [] _
  refine yG X0.here hx rfl 29 9 rfl (hb hby d5_29) ?_
  show S_ p e below s₁ m 9 #[vr bx_, vr by_, vi 1] [] _
  refine XS.iloadN X0.here hx rfl (hb hby d5_9) rfl ?_
  show S_ p e below s₁ m 10 #[vr bx_, vr by_, vi 1] [(ii 1)] _
  refine XS.aloadN X0.here hx rfl (hb hby d5_10) rfl rfl ?_
  show S_ p e below s₁ m 11 #[vr bx_, vr by_, vi 1] [(rr bx_), (ii 1)] _
  refine ldLen X0 hx hZ e0 A0_ rfl rfl (hb hby d5_11) ?_
  show S_ p e below s₁ m 12 #[vr bx_, vr by_, vi 1] [(ii 9), (ii 1)] _
  refine XS.icmpNo X0.here hx rfl (hb hby d5_12) rfl rfl ?_
  show S_ p e below s₁ m 15 #[vr bx_, vr by_, vi 1] [] _
  refine XS.aloadN X0.here hx rfl (hb hby d5_15) rfl rfl ?_
  show S_ p e below s₁ m 16 #[vr bx_, vr by_, vi 1] [(rr bx_)] _
  refine XS.iloadN X0.here hx rfl (hb hby d5_16) rfl ?_
  show S_ p e below s₁ m 17 #[vr bx_, vr by_, vi 1] [(ii 1), (rr bx_)] _
  refine ldB X0 hx hZ e0 A0_ (v := (ii 110)) (by decide) (by decide) rfl rfl rfl (hb hby d5_17) ?_
  show S_ p e below s₁ m 18 #[vr bx_, vr by_, vi 1] [(ii 110)] _
  refine XS.aloadN X0.here hx rfl (hb hby d5_18) rfl rfl ?_
  show S_ p e below s₁ m 19 #[vr bx_, vr by_, vi 1] [(rr by_), (ii 110)] _
  refine XS.iloadN X0.here hx rfl (hb hby d5_19) rfl ?_
  show S_ p e below s₁ m 20 #[vr bx_, vr by_, vi 1] [(ii 1), (rr by_), (ii 110)] _
  refine ldB X0 hx hZ e0 A1_ (v := (ii 110)) (by decide) (by decide) rfl rfl rfl (hb hby d5_20) ?_
  show S_ p e below s₁ m 21 #[vr bx_, vr by_, vi 1] [(ii 110), (ii 110)] _
  refine yC X0.here hx rfl 21 26 rfl (hb hby d5_21) rfl rfl ?_
  show S_ p e below s₁ m 26 #[vr bx_, vr by_, vi 1] [] _
  refine XS.iinc X0.here hx rfl (hb hby d5_26) rfl (l' := #[vr bx_, vr by_, vi 2]) rfl ?_
  show S_ p e below s₁ m 29 #[vr bx_, vr by_, vi 2] [] _
  refine yG X0.here hx rfl 29 9 rfl (hb hby d5_29) ?_
  show S_ p e below s₁ m 9 #[vr bx_, vr by_, vi 2] [] _
  refine XS.iloadN X0.here hx rfl (hb hby d5_9) rfl ?_
  show S_ p e below s₁ m 10 #[vr bx_, vr by_, vi 2] [(ii 2)] _
  refine XS.aloadN X0.here hx rfl (hb hby d5_10) rfl rfl ?_
  show S_ p e below s₁ m 11 #[vr bx_, vr by_, vi 2] [(rr bx_), (ii 2)] _
  refine ldLen X0 hx hZ e0 A0_ rfl rfl (hb hby d5_11) ?_
  show S_ p e below s₁ m 12 #[vr bx_, vr by_, vi 2] [(ii 9), (ii 2)] _
  refine XS.icmpNo X0.here hx rfl (hb hby d5_12) rfl rfl ?_
  show S_ p e below s₁ m 15 #[vr bx_, vr by_, vi 2] [] _
  refine XS.aloadN X0.here hx rfl (hb hby d5_15) rfl rfl ?_
  show S_ p e below s₁ m 16 #[vr bx_, vr by_, vi 2] [(rr bx_)] _
  refine XS.iloadN X0.here hx rfl (hb hby d5_16) rfl ?_
  show S_ p e below s₁ m 17 #[vr bx_, vr by_, vi 2] [(ii 2), (rr bx_)] _
  refine ldB X0 hx hZ e0 A0_ (v := (ii 99)) (by decide) (by decide) rfl rfl rfl (hb hby d5_17) ?_
  show S_ p e below s₁ m 18 #[vr bx_, vr by_, vi 2] [(ii 99)] _
  refine XS.aloadN X0.here hx rfl (hb hby d5_18) rfl rfl ?_
  show S_ p e below s₁ m 19 #[vr bx_, vr by_, vi 2] [(rr by_), (ii 99)] _
  refine XS.iloadN X0.here hx rfl (hb hby d5_19) rfl ?_
  show S_ p e below s₁ m 20 #[vr bx_, vr by_, vi 2] [(ii 2), (rr by_), (ii 99)] _
  refine ldB X0 hx hZ e0 A1_ (v := (ii 99)) (by decide) (by decide) rfl rfl rfl (hb hby d5_20) ?_
  show S_ p e below s₁ m 21 #[vr bx_, vr by_, vi 2] [(ii 99), (ii 99)] _
  refine yC X0.here hx rfl 21 26 rfl (hb hby d5_21) rfl rfl ?_
  show S_ p e below s₁ m 26 #[vr bx_, vr by_, vi 2] [] _
  refine XS.iinc X0.here hx rfl (hb hby d5_26) rfl (l' := #[vr bx_, vr by_, vi 3]) rfl ?_
  show S_ p e below s₁ m 29 #[vr bx_, vr by_, vi 3] [] _
  refine yG X0.here hx rfl 29 9 rfl (hb hby d5_29) ?_
  show S_ p e below s₁ m 9 #[vr bx_, vr by_, vi 3] [] _
  refine XS.iloadN X0.here hx rfl (hb hby d5_9) rfl ?_
  show S_ p e below s₁ m 10 #[vr bx_, vr by_, vi 3] [(ii 3)] _
  refine XS.aloadN X0.here hx rfl (hb hby d5_10) rfl rfl ?_
  show S_ p e below s₁ m 11 #[vr bx_, vr by_, vi 3] [(rr bx_), (ii 3)] _
  refine ldLen X0 hx hZ e0 A0_ rfl rfl (hb hby d5_11) ?_
  show S_ p e below s₁ m 12 #[vr bx_, vr by_, vi 3] [(ii 9), (ii 3)] _
  refine XS.icmpNo X0.here hx rfl (hb hby d5_12) rfl rfl ?_
  show S_ p e below s₁ m 15 #[vr bx_, vr by_, vi 3] [] _
  refine XS.aloadN X0.here hx rfl (hb hby d5_15) rfl rfl ?_
  show S_ p e below s₁ m 16 #[vr bx_, vr by_, vi 3] [(rr bx_)] _
  refine XS.iloadN X0.here hx rfl (hb hby d5_16) rfl ?_
  show S_ p e below s₁ m 17 #[vr bx_, vr by_, vi 3] [(ii 3), (rr bx_)] _
  refine ldB X0 hx hZ e0 A0_ (v := (ii 104)) (by decide) (by decide) rfl rfl rfl (hb hby d5_17) ?_
  show S_ p e below s₁ m 18 #[vr bx_, vr by_, vi 3] [(ii 104)] _
  refine XS.aloadN X0.here hx rfl (hb hby d5_18) rfl rfl ?_
  show S_ p e below s₁ m 19 #[vr bx_, vr by_, vi 3] [(rr by_), (ii 104)] _
  refine XS.iloadN X0.here hx rfl (hb hby d5_19) rfl ?_
  show S_ p e below s₁ m 20 #[vr bx_, vr by_, vi 3] [(ii 3), (rr by_), (ii 104)] _
  refine ldB X0 hx hZ e0 A1_ (v := (ii 104)) (by decide) (by decide) rfl rfl rfl (hb hby d5_20) ?_
  show S_ p e below s₁ m 21 #[vr bx_, vr by_, vi 3] [(ii 104), (ii 104)] _
  refine yC X0.here hx rfl 21 26 rfl (hb hby d5_21) rfl rfl ?_
  show S_ p e below s₁ m 26 #[vr bx_, vr by_, vi 3] [] _
  refine XS.iinc X0.here hx rfl (hb hby d5_26) rfl (l' := #[vr bx_, vr by_, vi 4]) rfl ?_
  show S_ p e below s₁ m 29 #[vr bx_, vr by_, vi 4] [] _
  refine yG X0.here hx rfl 29 9 rfl (hb hby d5_29) ?_
  show S_ p e below s₁ m 9 #[vr bx_, vr by_, vi 4] [] _
  refine XS.iloadN X0.here hx rfl (hb hby d5_9) rfl ?_
  show S_ p e below s₁ m 10 #[vr bx_, vr by_, vi 4] [(ii 4)] _
  refine XS.aloadN X0.here hx rfl (hb hby d5_10) rfl rfl ?_
  show S_ p e below s₁ m 11 #[vr bx_, vr by_, vi 4] [(rr bx_), (ii 4)] _
  refine ldLen X0 hx hZ e0 A0_ rfl rfl (hb hby d5_11) ?_
  show S_ p e below s₁ m 12 #[vr bx_, vr by_, vi 4] [(ii 9), (ii 4)] _
  refine XS.icmpNo X0.here hx rfl (hb hby d5_12) rfl rfl ?_
  show S_ p e below s₁ m 15 #[vr bx_, vr by_, vi 4] [] _
  refine XS.aloadN X0.here hx rfl (hb hby d5_15) rfl rfl ?_
  show S_ p e below s₁ m 16 #[vr bx_, vr by_, vi 4] [(rr bx_)] _
  refine XS.iloadN X0.here hx rfl (hb hby d5_16) rfl ?_
  show S_ p e below s₁ m 17 #[vr bx_, vr by_, vi 4] [(ii 4), (rr bx_)] _
  refine ldB X0 hx hZ e0 A0_ (v := (ii 97)) (by decide) (by decide) rfl rfl rfl (hb hby d5_17) ?_
  show S_ p e below s₁ m 18 #[vr bx_, vr by_, vi 4] [(ii 97)] _
  refine XS.aloadN X0.here hx rfl (hb hby d5_18) rfl rfl ?_
  show S_ p e below s₁ m 19 #[vr bx_, vr by_, vi 4] [(rr by_), (ii 97)] _
  refine XS.iloadN X0.here hx rfl (hb hby d5_19) rfl ?_
  show S_ p e below s₁ m 20 #[vr bx_, vr by_, vi 4] [(ii 4), (rr by_), (ii 97)] _
  refine ldB X0 hx hZ e0 A1_ (v := (ii 97)) (by decide) (by decide) rfl rfl rfl (hb hby d5_20) ?_
  show S_ p e below s₁ m 21 #[vr bx_, vr by_, vi 4] [(ii 97), (ii 97)] _
  refine yC X0.here hx rfl 21 26 rfl (hb hby d5_21) rfl rfl ?_
  show S_ p e below s₁ m 26 #[vr bx_, vr by_, vi 4] [] _
  refine XS.iinc X0.here hx rfl (hb hby d5_26) rfl (l' := #[vr bx_, vr by_, vi 5]) rfl ?_
  show S_ p e below s₁ m 29 #[vr bx_, vr by_, vi 5] [] _
  refine yG X0.here hx rfl 29 9 rfl (hb hby d5_29) ?_
  show S_ p e below s₁ m 9 #[vr bx_, vr by_, vi 5] [] _
  refine XS.iloadN X0.here hx rfl (hb hby d5_9) rfl ?_
  show S_ p e below s₁ m 10 #[vr bx_, vr by_, vi 5] [(ii 5)] _
  refine XS.aloadN X0.here hx rfl (hb hby d5_10) rfl rfl ?_
  show S_ p e below s₁ m 11 #[vr bx_, vr by_, vi 5] [(rr bx_), (ii 5)] _
  refine ldLen X0 hx hZ e0 A0_ rfl rfl (hb hby d5_11) ?_
  show S_ p e below s₁ m 12 #[vr bx_, vr by_, vi 5] [(ii 9), (ii 5)] _
  refine XS.icmpNo X0.here hx rfl (hb hby d5_12) rfl rfl ?_
  show S_ p e below s₁ m 15 #[vr bx_, vr by_, vi 5] [] _
  refine XS.aloadN X0.here hx rfl (hb hby d5_15) rfl rfl ?_
  show S_ p e below s₁ m 16 #[vr bx_, vr by_, vi 5] [(rr bx_)] _
  refine XS.iloadN X0.here hx rfl (hb hby d5_16) rfl ?_
  show S_ p e below s₁ m 17 #[vr bx_, vr by_, vi 5] [(ii 5), (rr bx_)] _
  refine ldB X0 hx hZ e0 A0_ (v := (ii 110)) (by decide) (by decide) rfl rfl rfl (hb hby d5_17) ?_
  show S_ p e below s₁ m 18 #[vr bx_, vr by_, vi 5] [(ii 110)] _
  refine XS.aloadN X0.here hx rfl (hb hby d5_18) rfl rfl ?_
  show S_ p e below s₁ m 19 #[vr bx_, vr by_, vi 5] [(rr by_), (ii 110)] _
  refine XS.iloadN X0.here hx rfl (hb hby d5_19) rfl ?_
  show S_ p e below s₁ m 20 #[vr bx_, vr by_, vi 5] [(ii 5), (rr by_), (ii 110)] _
  refine ldB X0 hx hZ e0 A1_ (v := (ii 110)) (by decide) (by decide) rfl rfl rfl (hb hby d5_20) ?_
  show S_ p e below s₁ m 21 #[vr bx_, vr by_, vi 5] [(ii 110), (ii 110)] _
  refine yC X0.here hx rfl 21 26 rfl (hb hby d5_21) rfl rfl ?_
  show S_ p e below s₁ m 26 #[vr bx_, vr by_, vi 5] [] _
  refine XS.iinc X0.here hx rfl (hb hby d5_26) rfl (l' := #[vr bx_, vr by_, vi 6]) rfl ?_
  show S_ p e below s₁ m 29 #[vr bx_, vr by_, vi 6] [] _
  refine yG X0.here hx rfl 29 9 rfl (hb hby d5_29) ?_
  show S_ p e below s₁ m 9 #[vr bx_, vr by_, vi 6] [] _
  refine XS.iloadN X0.here hx rfl (hb hby d5_9) rfl ?_
  show S_ p e below s₁ m 10 #[vr bx_, vr by_, vi 6] [(ii 6)] _
  refine XS.aloadN X0.here hx rfl (hb hby d5_10) rfl rfl ?_
  show S_ p e below s₁ m 11 #[vr bx_, vr by_, vi 6] [(rr bx_), (ii 6)] _
  refine ldLen X0 hx hZ e0 A0_ rfl rfl (hb hby d5_11) ?_
  show S_ p e below s₁ m 12 #[vr bx_, vr by_, vi 6] [(ii 9), (ii 6)] _
  refine XS.icmpNo X0.here hx rfl (hb hby d5_12) rfl rfl ?_
  show S_ p e below s₁ m 15 #[vr bx_, vr by_, vi 6] [] _
  refine XS.aloadN X0.here hx rfl (hb hby d5_15) rfl rfl ?_
  show S_ p e below s₁ m 16 #[vr bx_, vr by_, vi 6] [(rr bx_)] _
  refine XS.iloadN X0.here hx rfl (hb hby d5_16) rfl ?_
  show S_ p e below s₁ m 17 #[vr bx_, vr by_, vi 6] [(ii 6), (rr bx_)] _
  refine ldB X0 hx hZ e0 A0_ (v := (ii 103)) (by decide) (by decide) rfl rfl rfl (hb hby d5_17) ?_
  show S_ p e below s₁ m 18 #[vr bx_, vr by_, vi 6] [(ii 103)] _
  refine XS.aloadN X0.here hx rfl (hb hby d5_18) rfl rfl ?_
  show S_ p e below s₁ m 19 #[vr bx_, vr by_, vi 6] [(rr by_), (ii 103)] _
  refine XS.iloadN X0.here hx rfl (hb hby d5_19) rfl ?_
  show S_ p e below s₁ m 20 #[vr bx_, vr by_, vi 6] [(ii 6), (rr by_), (ii 103)] _
  refine ldB X0 hx hZ e0 A1_ (v := (ii 103)) (by decide) (by decide) rfl rfl rfl (hb hby d5_20) ?_
  show S_ p e below s₁ m 21 #[vr bx_, vr by_, vi 6] [(ii 103), (ii 103)] _
  refine yC X0.here hx rfl 21 26 rfl (hb hby d5_21) rfl rfl ?_
  show S_ p e below s₁ m 26 #[vr bx_, vr by_, vi 6] [] _
  refine XS.iinc X0.here hx rfl (hb hby d5_26) rfl (l' := #[vr bx_, vr by_, vi 7]) rfl ?_
  show S_ p e below s₁ m 29 #[vr bx_, vr by_, vi 7] [] _
  refine yG X0.here hx rfl 29 9 rfl (hb hby d5_29) ?_
  show S_ p e below s₁ m 9 #[vr bx_, vr by_, vi 7] [] _
  refine XS.iloadN X0.here hx rfl (hb hby d5_9) rfl ?_
  show S_ p e below s₁ m 10 #[vr bx_, vr by_, vi 7] [(ii 7)] _
  refine XS.aloadN X0.here hx rfl (hb hby d5_10) rfl rfl ?_
  show S_ p e below s₁ m 11 #[vr bx_, vr by_, vi 7] [(rr bx_), (ii 7)] _
  refine ldLen X0 hx hZ e0 A0_ rfl rfl (hb hby d5_11) ?_
  show S_ p e below s₁ m 12 #[vr bx_, vr by_, vi 7] [(ii 9), (ii 7)] _
  refine XS.icmpNo X0.here hx rfl (hb hby d5_12) rfl rfl ?_
  show S_ p e below s₁ m 15 #[vr bx_, vr by_, vi 7] [] _
  refine XS.aloadN X0.here hx rfl (hb hby d5_15) rfl rfl ?_
  show S_ p e below s₁ m 16 #[vr bx_, vr by_, vi 7] [(rr bx_)] _
  refine XS.iloadN X0.here hx rfl (hb hby d5_16) rfl ?_
  show S_ p e below s₁ m 17 #[vr bx_, vr by_, vi 7] [(ii 7), (rr bx_)] _
  refine ldB X0 hx hZ e0 A0_ (v := (ii 101)) (by decide) (by decide) rfl rfl rfl (hb hby d5_17) ?_
  show S_ p e below s₁ m 18 #[vr bx_, vr by_, vi 7] [(ii 101)] _
  refine XS.aloadN X0.here hx rfl (hb hby d5_18) rfl rfl ?_
  show S_ p e below s₁ m 19 #[vr bx_, vr by_, vi 7] [(rr by_), (ii 101)] _
  refine XS.iloadN X0.here hx rfl (hb hby d5_19) rfl ?_
  show S_ p e below s₁ m 20 #[vr bx_, vr by_, vi 7] [(ii 7), (rr by_), (ii 101)] _
  refine ldB X0 hx hZ e0 A1_ (v := (ii 101)) (by decide) (by decide) rfl rfl rfl (hb hby d5_20) ?_
  show S_ p e below s₁ m 21 #[vr bx_, vr by_, vi 7] [(ii 101), (ii 101)] _
  refine yC X0.here hx rfl 21 26 rfl (hb hby d5_21) rfl rfl ?_
  show S_ p e below s₁ m 26 #[vr bx_, vr by_, vi 7] [] _
  refine XS.iinc X0.here hx rfl (hb hby d5_26) rfl (l' := #[vr bx_, vr by_, vi 8]) rfl ?_
  show S_ p e below s₁ m 29 #[vr bx_, vr by_, vi 8] [] _
  refine yG X0.here hx rfl 29 9 rfl (hb hby d5_29) ?_
  show S_ p e below s₁ m 9 #[vr bx_, vr by_, vi 8] [] _
  refine XS.iloadN X0.here hx rfl (hb hby d5_9) rfl ?_
  show S_ p e below s₁ m 10 #[vr bx_, vr by_, vi 8] [(ii 8)] _
  refine XS.aloadN X0.here hx rfl (hb hby d5_10) rfl rfl ?_
  show S_ p e below s₁ m 11 #[vr bx_, vr by_, vi 8] [(rr bx_), (ii 8)] _
  refine ldLen X0 hx hZ e0 A0_ rfl rfl (hb hby d5_11) ?_
  show S_ p e below s₁ m 12 #[vr bx_, vr by_, vi 8] [(ii 9), (ii 8)] _
  refine XS.icmpNo X0.here hx rfl (hb hby d5_12) rfl rfl ?_
  show S_ p e below s₁ m 15 #[vr bx_, vr by_, vi 8] [] _
  refine XS.aloadN X0.here hx rfl (hb hby d5_15) rfl rfl ?_
  show S_ p e below s₁ m 16 #[vr bx_, vr by_, vi 8] [(rr bx_)] _
  refine XS.iloadN X0.here hx rfl (hb hby d5_16) rfl ?_
  show S_ p e below s₁ m 17 #[vr bx_, vr by_, vi 8] [(ii 8), (rr bx_)] _
  refine ldB X0 hx hZ e0 A0_ (v := (ii 100)) (by decide) (by decide) rfl rfl rfl (hb hby d5_17) ?_
  show S_ p e below s₁ m 18 #[vr bx_, vr by_, vi 8] [(ii 100)] _
  refine XS.aloadN X0.here hx rfl (hb hby d5_18) rfl rfl ?_
  show S_ p e below s₁ m 19 #[vr bx_, vr by_, vi 8] [(rr by_), (ii 100)] _
  refine XS.iloadN X0.here hx rfl (hb hby d5_19) rfl ?_
  show S_ p e below s₁ m 20 #[vr bx_, vr by_, vi 8] [(ii 8), (rr by_), (ii 100)] _
  refine ldB X0 hx hZ e0 A1_ (v := (ii 100)) (by decide) (by decide) rfl rfl rfl (hb hby d5_20) ?_
  show S_ p e below s₁ m 21 #[vr bx_, vr by_, vi 8] [(ii 100), (ii 100)] _
  refine yC X0.here hx rfl 21 26 rfl (hb hby d5_21) rfl rfl ?_
  show S_ p e below s₁ m 26 #[vr bx_, vr by_, vi 8] [] _
  refine XS.iinc X0.here hx rfl (hb hby d5_26) rfl (l' := #[vr bx_, vr by_, vi 9]) rfl ?_
  show S_ p e below s₁ m 29 #[vr bx_, vr by_, vi 9] [] _
  refine yG X0.here hx rfl 29 9 rfl (hb hby d5_29) ?_
  show S_ p e below s₁ m 9 #[vr bx_, vr by_, vi 9] [] _
  refine XS.iloadN X0.here hx rfl (hb hby d5_9) rfl ?_
  show S_ p e below s₁ m 10 #[vr bx_, vr by_, vi 9] [(ii 9)] _
  refine XS.aloadN X0.here hx rfl (hb hby d5_10) rfl rfl ?_
  show S_ p e below s₁ m 11 #[vr bx_, vr by_, vi 9] [(rr bx_), (ii 9)] _
  refine ldLen X0 hx hZ e0 A0_ rfl rfl (hb hby d5_11) ?_
  show S_ p e below s₁ m 12 #[vr bx_, vr by_, vi 9] [(ii 9), (ii 9)] _
  refine yC X0.here hx rfl 12 32 rfl (hb hby d5_12) rfl rfl ?_
  show S_ p e below s₁ m 32 #[vr bx_, vr by_, vi 9] [] _
  refine XS.iconst X0.here hx rfl (hb hby d5_32) ?_
  show S_ p e below s₁ m 33 #[vr bx_, vr by_, vi 9] [(ii 1)] _
  exact retN X0 hx (t := .boolean) Bd.returns (by simp) (hb hby d5_33) hr
 ·show Q_l1eq_unchanged Z bx_ kx_ by_ ky_ h0 n0 _ s₁.heap _
  rw [e0]
  exact ⟨rfl, N0, rfl⟩
theorem ef_seq_unchanged (m : MethodId) (x_ : Addr) (y_ : Addr) : entryFrame m #[(rr x_), (rr y_)] 3 = mkF m 0 #[vr x_, vr y_, u_] [] := by first | (simp [entryFrame, mkF, argsToLocals, Value.category]; done) | rfl
def Q_seq_unchanged (Z : State) (x_ : Addr) (bx_ : Addr) (kx_ : ClassId) (y_ : Addr) (by_ : Addr) (ky_ : ClassId) (z_ : Int32) (h0 : Heap) (n0 : Nat) (v : Option Value) (h : Heap) (L : List Loc) : Prop := v = some (ii 1) ∧ Fr n0 L ∧ h = h0
set_option maxRecDepth 65536 in
set_option maxHeartbeats 40000000 in
theorem rm_seq_unchanged (l : Launch) (Z : State) (a0 : Array Value) (hw : HW Z a0) (ws : List Jvm.Cond) (x_ : Addr) (bx_ : Addr) (kx_ : ClassId) (y_ : Addr) (by_ : Addr) (ky_ : ClassId) (z_ : Int32) (h0 : Heap) (n0 : Nat) (O0 : Old Z n0 h0) (E0_ : Exa Z h0 x_ nm1) (F1_ : Fld Z h0 x_ nm1 "coder" "B" (ii 0)) (F2_ : Fld Z h0 x_ nm1 "value" "[B" (rr bx_)) (A3_ : Arv Z h0 bx_ kx_ .byte (9 : Int32) [(ii 117), (ii 110), (ii 99), (ii 104), (ii 97), (ii 110), (ii 103), (ii 101), (ii 100)] (ii 0)) (E4_ : Exa Z h0 y_ nm1) (F5_ : Fld Z h0 y_ nm1 "coder" "B" (ii 0)) (F6_ : Fld Z h0 y_ nm1 "value" "[B" (rr by_)) (A7_ : Arv Z h0 by_ ky_ .byte (9 : Int32) [(ii 117), (ii 110), (ii 99), (ii 104), (ii 97), (ii 110), (ii 103), (ii 101), (ii 100)] (ii 0)) (ZS8_ : Sta Z Z.heap nm1 "COMPACT_STRINGS" "Z" (.int z_)) (hz_ : ¬ (z_ = (0 : Int32))) (NE10_ : x_ ≠ y_) :
  MFP l Z (⟨nm1, "equals", nm9⟩ : MethodName) jdk_42_method_66_code 3 (some .boolean) ({ frames := 1, cells := 0, slots := 0, locals := 14 } : Room) ws #[(rr x_), (rr y_)] h0 (Q_seq_unchanged Z x_ bx_ kx_ y_ by_ ky_ z_ h0 n0) := by
 refine MetFree.of_bodySF (plainFor_of_name pn_java_lang_String) hisR ?_
 intro p e s m args below meth c s₁ Bd hml0 hP hK
 obtain ⟨rfl, hZ, hh⟩ := hP
 have hx := Bd.exec
 have hby := Bd.bytes
 have hml : c.maxLocals = 3 := hml0
 have hown : s.vm.findClass nm1 = some m.cls := findClass_of_methodNamed Bd.named
 have hnm := (name_of_methodNamed Bd.named Bd.method).1
 have X0 : Stand p l e ({ frames := 1, cells := 0, slots := 0, locals := 14 } : Room) s m #[(rr x_), (rr y_)] below meth c s₁ [] 0 0 := Stand.of_body Bd
 have e0 : s₁.heap = h0 := by rw [← hh, Bd.state]; rfl
 have N0 := Fr.nil n0
 have kp0 : Keep h0 h0 [] := Keep.refl _ _
 have c0 : ∀ t, S_ p e below s₁ m 0 #[vr x_, vr y_, u_] [] t → Steps p.tables e below (s₁.setTop (entryFrame m #[(rr x_), (rr y_)] 3)) t := fun t k => castTop (ef_seq_unchanged m x_ y_) k
 generalize s₁.setTop (entryFrame m #[(rr x_), (rr y_)] 3) = st0 at c0 ⊢
 replace c0 : Kt p e below s₁ st0 (mkF m 0 #[vr x_, vr y_, u_] []) := c0
 have c1 : Kt p e below s₁ st0 (mkF m 8 #[vr x_, vr y_, u_] [(rr y_)]) := fun t k => by
  refine c0 t ?_
  show S_ p e below s₁ m 0 #[vr x_, vr y_, u_] [] t
  refine XS.aloadN X0.here hx rfl (hb hby d6_0) rfl rfl ?_
  show S_ p e below s₁ m 1 #[vr x_, vr y_, u_] [(rr x_)] t
  refine XS.aloadN X0.here hx rfl (hb hby d6_1) rfl rfl ?_
  show S_ p e below s₁ m 2 #[vr x_, vr y_, u_] [(rr y_), (rr x_)] t
  refine Jvm.RoadKit.acmp (g := (mkF m 2 #[vr x_, vr y_, u_] [(rr y_), (rr x_)])) X0 hx rfl rfl rfl (pc0 := 2) (pc' := 7) (same := false) rfl (hb hby d6_2) rfl (decide_eq_false fun q => NE10_ (Value.ref.inj q)) (by decide) (by decide) ?_
  show S_ p e below s₁ m 7 #[vr x_, vr y_, u_] [] t
  refine XS.aloadN X0.here hx rfl (hb hby d6_7) rfl rfl ?_
  exact k
 obtain ⟨T2, X2, e2, c2⟩ := kinst X0 hx hZ hown (w61 hw) e0 (Ins.self E4_) c1 rfl rfl (hb hby d6_8)
 have c3 : Kt p e below T2 st0 (mkF m 15 #[vr x_, vr y_, u_] [(rr y_)]) := fun t k => by
  refine c2 t ?_
  show S_ p e below T2 m 11 #[vr x_, vr y_, u_] [(ii 1)] t
  refine XS.ifNo X2.here hx rfl (hb hby d6_11) rfl rfl ?_
  show S_ p e below T2 m 14 #[vr x_, vr y_, u_] [] t
  refine XS.aloadN X2.here hx rfl (hb hby d6_14) rfl rfl ?_
  exact k
 obtain ⟨T4, X4, e4, c4⟩ := kcast X2 hx hZ hown (w61 hw) e2 (Ins.self E4_) c3 rfl rfl (hb hby d6_15)
 have c5 : Kt p e below T4 st0 (mkF m 19 #[vr x_, vr y_, vr y_] []) := fun t k => by
  refine c4 t ?_
  show S_ p e below T4 m 18 #[vr x_, vr y_, u_] [(rr y_)] t
  refine XS.astoreN X4.here hx rfl (hb hby d6_18) rfl rfl (l' := #[vr x_, vr y_, vr y_]) rfl ?_
  exact k
 obtain ⟨T6, X6, e6, c6⟩ := kgetS X4 hx hZ hown (host := "") (Or.inl (w17 hw)) Via.refl e4 (ZS8_.ext O0.2) c5 rfl (hb hby d6_19)
 have c7 : Kt p e below T6 st0 (mkF m 26 #[vr x_, vr y_, vr y_] [(rr x_)]) := fun t k => by
  refine c6 t ?_
  show S_ p e below T6 m 22 #[vr x_, vr y_, vr y_] [(.int z_)] t
  refine XS.ifNo X6.here hx rfl (hb hby d6_22) rfl ((if0 _ _).trans (feq hz_).1) ?_
  show S_ p e below T6 m 25 #[vr x_, vr y_, vr y_] [] t
  refine XS.aloadN X6.here hx rfl (hb hby d6_25) rfl rfl ?_
  exact k
 obtain ⟨T8, X8, e8, c8⟩ := kget X6 hx hZ hown (host := "") (Or.inl (w29 hw)) Via.refl e6 F1_ c7 rfl rfl (hb hby d6_26)
 have c9 : Kt p e below T8 st0 (mkF m 30 #[vr x_, vr y_, vr y_] [(rr y_), (ii 0)]) := fun t k => by
  refine c8 t ?_
  show S_ p e below T8 m 29 #[vr x_, vr y_, vr y_] [(ii 0)] t
  refine XS.aloadN X8.here hx rfl (hb hby d6_29) rfl rfl ?_
  exact k
 obtain ⟨T10, X10, e10, c10⟩ := kget X8 hx hZ hown (host := "") (Or.inl (w29 hw)) Via.refl e8 F5_ c9 rfl rfl (hb hby d6_30)
 have c11 : Kt p e below T10 st0 (mkF m 37 #[vr x_, vr y_, vr y_] [(rr x_)]) := fun t k => by
  refine c10 t ?_
  show S_ p e below T10 m 33 #[vr x_, vr y_, vr y_] [(ii 0), (ii 0)] t
  refine XS.icmpNo X10.here hx rfl (hb hby d6_33) rfl rfl ?_
  show S_ p e below T10 m 36 #[vr x_, vr y_, vr y_] [] t
  refine XS.aloadN X10.here hx rfl (hb hby d6_36) rfl rfl ?_
  exact k
 obtain ⟨T12, X12, e12, c12⟩ := kget X10 hx hZ hown (host := "") (Or.inl (w31 hw)) Via.refl e10 F2_ c11 rfl rfl (hb hby d6_37)
 have c13 : Kt p e below T12 st0 (mkF m 41 #[vr x_, vr y_, vr y_] [(rr y_), (rr bx_)]) := fun t k => by
  refine c12 t ?_
  show S_ p e below T12 m 40 #[vr x_, vr y_, vr y_] [(rr bx_)] t
  refine XS.aloadN X12.here hx rfl (hb hby d6_40) rfl rfl ?_
  exact k
 obtain ⟨T14, X14, e14, c14⟩ := kget X12 hx hZ hown (host := "") (Or.inl (w31 hw)) Via.refl e12 F6_ c13 rfl rfl (hb hby d6_41)
 obtain ⟨_, T15, L15, X15, hQ15, c15⟩ := kstat X14 hx hZ hown (w62 hw) (w63 hw) (w64 hw) (w65 hw) (rm_l1eq_unchanged l Z a0 hw [] bx_ kx_ by_ ky_ h0 n0 O0 A3_ A7_) e14 c14 hml pd_pABABrZ [(rr bx_), (rr by_)] [] 0 (hb hby d6_44) rfl rfl rfl rfl rfl rfl
 obtain ⟨rfl, N16q, K17⟩ := hQ15
 have N16 := Fr.app N0 N16q
 obtain ⟨fs, hr, hrun, hended, hW, hsame⟩ := X15.leave (v := some (ii 1)) (fun h => by rw [Bd.returns] at h; cases h)
 refine ⟨_, _, c15 _ ?_, hrun, hended, _, _, rfl, ?_, ⟨_, rfl⟩, hW, hsame.mono (by decide) (by decide)⟩
 ·show S_ p e below T15 m 47 #[vr x_, vr y_, vr y_] [(ii 1)] _
  refine XS.ifNo X15.here hx rfl (hb hby d6_47) rfl rfl ?_
  show S_ p e below T15 m 50 #[vr x_, vr y_, vr y_] [] _
  refine XS.iconst X15.here hx rfl (hb hby d6_50) ?_
  show S_ p e below T15 m 51 #[vr x_, vr y_, vr y_] [(ii 1)] _
  refine yG X15.here hx rfl 51 55 rfl (hb hby d6_51) ?_
  show S_ p e below T15 m 55 #[vr x_, vr y_, vr y_] [(ii 1)] _
  exact retN X15 hx (t := .boolean) Bd.returns (by simp) (hb hby d6_55) hr
 ·show Q_seq_unchanged Z x_ bx_ kx_ y_ by_ ky_ z_ h0 n0 _ T15.heap _
  rw [K17]
  exact ⟨rfl, N16, rfl⟩
theorem ef_l1eq_error (m : MethodId) (bx_ : Addr) (by_ : Addr) : entryFrame m #[(rr bx_), (rr by_)] 3 = mkF m 0 #[vr bx_, vr by_, u_] [] := by first | (simp [entryFrame, mkF, argsToLocals, Value.category]; done) | rfl
def Q_l1eq_error (Z : State) (bx_ : Addr) (kx_ : ClassId) (by_ : Addr) (ky_ : ClassId) (h0 : Heap) (n0 : Nat) (v : Option Value) (h : Heap) (L : List Loc) : Prop := v = some (ii 1) ∧ Fr n0 L ∧ h = h0
set_option maxRecDepth 65536 in
set_option maxHeartbeats 40000000 in
theorem rm_l1eq_error (l : Launch) (Z : State) (a0 : Array Value) (hw : HW Z a0) (ws : List Jvm.Cond) (bx_ : Addr) (kx_ : ClassId) (by_ : Addr) (ky_ : ClassId) (h0 : Heap) (n0 : Nat) (O0 : Old Z n0 h0) (A0_ : Arv Z h0 bx_ kx_ .byte (5 : Int32) [(ii 101), (ii 114), (ii 114), (ii 111), (ii 114)] (ii 0)) (A1_ : Arv Z h0 by_ ky_ .byte (5 : Int32) [(ii 101), (ii 114), (ii 114), (ii 111), (ii 114)] (ii 0)) :
  MFP l Z (⟨nm6, "equals", "([B[B)Z"⟩ : MethodName) jdk_43_method_13_code 3 (some .boolean) ({ frames := 0, cells := 0, slots := 0, locals := 0 } : Room) ws #[(rr bx_), (rr by_)] h0 (Q_l1eq_error Z bx_ kx_ by_ ky_ h0 n0) := by
 refine MetFree.of_bodySF (plainFor_of_name pn_java_lang_StringLatin1) hisR ?_
 intro p e s m args below meth c s₁ Bd hml0 hP hK
 obtain ⟨rfl, hZ, hh⟩ := hP
 have hx := Bd.exec
 have hby := Bd.bytes
 have hml : c.maxLocals = 3 := hml0
 have hown : s.vm.findClass nm6 = some m.cls := findClass_of_methodNamed Bd.named
 have hnm := (name_of_methodNamed Bd.named Bd.method).1
 have X0 : Stand p l e ({ frames := 0, cells := 0, slots := 0, locals := 0 } : Room) s m #[(rr bx_), (rr by_)] below meth c s₁ [] 0 0 := Stand.of_body Bd
 have e0 : s₁.heap = h0 := by rw [← hh, Bd.state]; rfl
 have N0 := Fr.nil n0
 have kp0 : Keep h0 h0 [] := Keep.refl _ _
 have c0 : ∀ t, S_ p e below s₁ m 0 #[vr bx_, vr by_, u_] [] t → Steps p.tables e below (s₁.setTop (entryFrame m #[(rr bx_), (rr by_)] 3)) t := fun t k => castTop (ef_l1eq_error m bx_ by_) k
 generalize s₁.setTop (entryFrame m #[(rr bx_), (rr by_)] 3) = st0 at c0 ⊢
 replace c0 : Kt p e below s₁ st0 (mkF m 0 #[vr bx_, vr by_, u_] []) := c0
 obtain ⟨fs, hr, hrun, hended, hW, hsame⟩ := X0.leave (v := some (ii 1)) (fun h => by rw [Bd.returns] at h; cases h)
 refine ⟨_, _, c0 _ ?_, hrun, hended, _, _, rfl, ?_, ⟨_, rfl⟩, hW, hsame.mono (by decide) (by decide)⟩
 ·show S_ p e below s₁ m 0 #[vr bx_, vr by_, u_] [] _
  refine XS.aloadN X0.here hx rfl (hb hby d5_0) rfl rfl ?_
  show S_ p e below s₁ m 1 #[vr bx_, vr by_, u_] [(rr bx_)] _
  refine ldLen X0 hx hZ e0 A0_ rfl rfl (hb hby d5_1) ?_
  show S_ p e below s₁ m 2 #[vr bx_, vr by_, u_] [(ii 5)] _
  refine XS.aloadN X0.here hx rfl (hb hby d5_2) rfl rfl ?_
  show S_ p e below s₁ m 3 #[vr bx_, vr by_, u_] [(rr by_), (ii 5)] _
  refine ldLen X0 hx hZ e0 A1_ rfl rfl (hb hby d5_3) ?_
  show S_ p e below s₁ m 4 #[vr bx_, vr by_, u_] [(ii 5), (ii 5)] _
  refine XS.icmpNo X0.here hx rfl (hb hby d5_4) rfl rfl ?_
  show S_ p e below s₁ m 7 #[vr bx_, vr by_, u_] [] _
  refine XS.iconst X0.here hx rfl (hb hby d5_7) ?_
  show S_ p e below s₁ m 8 #[vr bx_, vr by_, u_] [(ii 0)] _
  refine XS.istoreN X0.here hx rfl (hb hby d5_8) rfl (l' := #[vr bx_, vr by_, vi 0]) rfl ?_
  show S_ p e below s₁ m 9 #[vr bx_, vr by_, vi 0] [] _
  refine XS.iloadN X0.here hx rfl (hb hby d5_9) rfl ?_
  show S_ p e below s₁ m 10 #[vr bx_, vr by_, vi 0] [(ii 0)] _
  refine XS.aloadN X0.here hx rfl (hb hby d5_10) rfl rfl ?_
  show S_ p e below s₁ m 11 #[vr bx_, vr by_, vi 0] [(rr bx_), (ii 0)] _
  refine ldLen X0 hx hZ e0 A0_ rfl rfl (hb hby d5_11) ?_
  show S_ p e below s₁ m 12 #[vr bx_, vr by_, vi 0] [(ii 5), (ii 0)] _
  refine XS.icmpNo X0.here hx rfl (hb hby d5_12) rfl rfl ?_
  show S_ p e below s₁ m 15 #[vr bx_, vr by_, vi 0] [] _
  refine XS.aloadN X0.here hx rfl (hb hby d5_15) rfl rfl ?_
  show S_ p e below s₁ m 16 #[vr bx_, vr by_, vi 0] [(rr bx_)] _
  refine XS.iloadN X0.here hx rfl (hb hby d5_16) rfl ?_
  show S_ p e below s₁ m 17 #[vr bx_, vr by_, vi 0] [(ii 0), (rr bx_)] _
  refine ldB X0 hx hZ e0 A0_ (v := (ii 101)) (by decide) (by decide) rfl rfl rfl (hb hby d5_17) ?_
  show S_ p e below s₁ m 18 #[vr bx_, vr by_, vi 0] [(ii 101)] _
  refine XS.aloadN X0.here hx rfl (hb hby d5_18) rfl rfl ?_
  show S_ p e below s₁ m 19 #[vr bx_, vr by_, vi 0] [(rr by_), (ii 101)] _
  refine XS.iloadN X0.here hx rfl (hb hby d5_19) rfl ?_
  show S_ p e below s₁ m 20 #[vr bx_, vr by_, vi 0] [(ii 0), (rr by_), (ii 101)] _
  refine ldB X0 hx hZ e0 A1_ (v := (ii 101)) (by decide) (by decide) rfl rfl rfl (hb hby d5_20) ?_
  show S_ p e below s₁ m 21 #[vr bx_, vr by_, vi 0] [(ii 101), (ii 101)] _
  refine yC X0.here hx rfl 21 26 rfl (hb hby d5_21) rfl rfl ?_
  show S_ p e below s₁ m 26 #[vr bx_, vr by_, vi 0] [] _
  refine XS.iinc X0.here hx rfl (hb hby d5_26) rfl (l' := #[vr bx_, vr by_, vi 1]) rfl ?_
  show S_ p e below s₁ m 29 #[vr bx_, vr by_, vi 1] [] _
  refine yG X0.here hx rfl 29 9 rfl (hb hby d5_29) ?_
  show S_ p e below s₁ m 9 #[vr bx_, vr by_, vi 1] [] _
  refine XS.iloadN X0.here hx rfl (hb hby d5_9) rfl ?_
  show S_ p e below s₁ m 10 #[vr bx_, vr by_, vi 1] [(ii 1)] _
  refine XS.aloadN X0.here hx rfl (hb hby d5_10) rfl rfl ?_
  show S_ p e below s₁ m 11 #[vr bx_, vr by_, vi 1] [(rr bx_), (ii 1)] _
  refine ldLen X0 hx hZ e0 A0_ rfl rfl (hb hby d5_11) ?_
  show S_ p e below s₁ m 12 #[vr bx_, vr by_, vi 1] [(ii 5), (ii 1)] _
  refine XS.icmpNo X0.here hx rfl (hb hby d5_12) rfl rfl ?_
  show S_ p e below s₁ m 15 #[vr bx_, vr by_, vi 1] [] _
  refine XS.aloadN X0.here hx rfl (hb hby d5_15) rfl rfl ?_
  show S_ p e below s₁ m 16 #[vr bx_, vr by_, vi 1] [(rr bx_)] _
  refine XS.iloadN X0.here hx rfl (hb hby d5_16) rfl ?_
  show S_ p e below s₁ m 17 #[vr bx_, vr by_, vi 1] [(ii 1), (rr bx_)] _
  refine ldB X0 hx hZ e0 A0_ (v := (ii 114)) (by decide) (by decide) rfl rfl rfl (hb hby d5_17) ?_
  show S_ p e below s₁ m 18 #[vr bx_, vr by_, vi 1] [(ii 114)] _
  refine XS.aloadN X0.here hx rfl (hb hby d5_18) rfl rfl ?_
  show S_ p e below s₁ m 19 #[vr bx_, vr by_, vi 1] [(rr by_), (ii 114)] _
  refine XS.iloadN X0.here hx rfl (hb hby d5_19) rfl ?_
  show S_ p e below s₁ m 20 #[vr bx_, vr by_, vi 1] [(ii 1), (rr by_), (ii 114)] _
  refine ldB X0 hx hZ e0 A1_ (v := (ii 114)) (by decide) (by decide) rfl rfl rfl (hb hby d5_20) ?_
  show S_ p e below s₁ m 21 #[vr bx_, vr by_, vi 1] [(ii 114), (ii 114)] _
  refine yC X0.here hx rfl 21 26 rfl (hb hby d5_21) rfl rfl ?_
  show S_ p e below s₁ m 26 #[vr bx_, vr by_, vi 1] [] _
  refine XS.iinc X0.here hx rfl (hb hby d5_26) rfl (l' := #[vr bx_, vr by_, vi 2]) rfl ?_
  show S_ p e below s₁ m 29 #[vr bx_, vr by_, vi 2] [] _
  refine yG X0.here hx rfl 29 9 rfl (hb hby d5_29) ?_
  show S_ p e below s₁ m 9 #[vr bx_, vr by_, vi 2] [] _
  refine XS.iloadN X0.here hx rfl (hb hby d5_9) rfl ?_
  show S_ p e below s₁ m 10 #[vr bx_, vr by_, vi 2] [(ii 2)] _
  refine XS.aloadN X0.here hx rfl (hb hby d5_10) rfl rfl ?_
  show S_ p e below s₁ m 11 #[vr bx_, vr by_, vi 2] [(rr bx_), (ii 2)] _
  refine ldLen X0 hx hZ e0 A0_ rfl rfl (hb hby d5_11) ?_
  show S_ p e below s₁ m 12 #[vr bx_, vr by_, vi 2] [(ii 5), (ii 2)] _
  refine XS.icmpNo X0.here hx rfl (hb hby d5_12) rfl rfl ?_
  show S_ p e below s₁ m 15 #[vr bx_, vr by_, vi 2] [] _
  refine XS.aloadN X0.here hx rfl (hb hby d5_15) rfl rfl ?_
  show S_ p e below s₁ m 16 #[vr bx_, vr by_, vi 2] [(rr bx_)] _
  refine XS.iloadN X0.here hx rfl (hb hby d5_16) rfl ?_
  show S_ p e below s₁ m 17 #[vr bx_, vr by_, vi 2] [(ii 2), (rr bx_)] _
  refine ldB X0 hx hZ e0 A0_ (v := (ii 114)) (by decide) (by decide) rfl rfl rfl (hb hby d5_17) ?_
  show S_ p e below s₁ m 18 #[vr bx_, vr by_, vi 2] [(ii 114)] _
  refine XS.aloadN X0.here hx rfl (hb hby d5_18) rfl rfl ?_
  show S_ p e below s₁ m 19 #[vr bx_, vr by_, vi 2] [(rr by_), (ii 114)] _
  refine XS.iloadN X0.here hx rfl (hb hby d5_19) rfl ?_
  show S_ p e below s₁ m 20 #[vr bx_, vr by_, vi 2] [(ii 2), (rr by_), (ii 114)] _
  refine ldB X0 hx hZ e0 A1_ (v := (ii 114)) (by decide) (by decide) rfl rfl rfl (hb hby d5_20) ?_
  show S_ p e below s₁ m 21 #[vr bx_, vr by_, vi 2] [(ii 114), (ii 114)] _
  refine yC X0.here hx rfl 21 26 rfl (hb hby d5_21) rfl rfl ?_
  show S_ p e below s₁ m 26 #[vr bx_, vr by_, vi 2] [] _
  refine XS.iinc X0.here hx rfl (hb hby d5_26) rfl (l' := #[vr bx_, vr by_, vi 3]) rfl ?_
  show S_ p e below s₁ m 29 #[vr bx_, vr by_, vi 3] [] _
  refine yG X0.here hx rfl 29 9 rfl (hb hby d5_29) ?_
  show S_ p e below s₁ m 9 #[vr bx_, vr by_, vi 3] [] _
  refine XS.iloadN X0.here hx rfl (hb hby d5_9) rfl ?_
  show S_ p e below s₁ m 10 #[vr bx_, vr by_, vi 3] [(ii 3)] _
  refine XS.aloadN X0.here hx rfl (hb hby d5_10) rfl rfl ?_
  show S_ p e below s₁ m 11 #[vr bx_, vr by_, vi 3] [(rr bx_), (ii 3)] _
  refine ldLen X0 hx hZ e0 A0_ rfl rfl (hb hby d5_11) ?_
  show S_ p e below s₁ m 12 #[vr bx_, vr by_, vi 3] [(ii 5), (ii 3)] _
  refine XS.icmpNo X0.here hx rfl (hb hby d5_12) rfl rfl ?_
  show S_ p e below s₁ m 15 #[vr bx_, vr by_, vi 3] [] _
  refine XS.aloadN X0.here hx rfl (hb hby d5_15) rfl rfl ?_
  show S_ p e below s₁ m 16 #[vr bx_, vr by_, vi 3] [(rr bx_)] _
  refine XS.iloadN X0.here hx rfl (hb hby d5_16) rfl ?_
  show S_ p e below s₁ m 17 #[vr bx_, vr by_, vi 3] [(ii 3), (rr bx_)] _
  refine ldB X0 hx hZ e0 A0_ (v := (ii 111)) (by decide) (by decide) rfl rfl rfl (hb hby d5_17) ?_
  show S_ p e below s₁ m 18 #[vr bx_, vr by_, vi 3] [(ii 111)] _
  refine XS.aloadN X0.here hx rfl (hb hby d5_18) rfl rfl ?_
  show S_ p e below s₁ m 19 #[vr bx_, vr by_, vi 3] [(rr by_), (ii 111)] _
  refine XS.iloadN X0.here hx rfl (hb hby d5_19) rfl ?_
  show S_ p e below s₁ m 20 #[vr bx_, vr by_, vi 3] [(ii 3), (rr by_), (ii 111)] _
  refine ldB X0 hx hZ e0 A1_ (v := (ii 111)) (by decide) (by decide) rfl rfl rfl (hb hby d5_20) ?_
  show S_ p e below s₁ m 21 #[vr bx_, vr by_, vi 3] [(ii 111), (ii 111)] _
  refine yC X0.here hx rfl 21 26 rfl (hb hby d5_21) rfl rfl ?_
  show S_ p e below s₁ m 26 #[vr bx_, vr by_, vi 3] [] _
  refine XS.iinc X0.here hx rfl (hb hby d5_26) rfl (l' := #[vr bx_, vr by_, vi 4]) rfl ?_
  show S_ p e below s₁ m 29 #[vr bx_, vr by_, vi 4] [] _
  refine yG X0.here hx rfl 29 9 rfl (hb hby d5_29) ?_
  show S_ p e below s₁ m 9 #[vr bx_, vr by_, vi 4] [] _
  refine XS.iloadN X0.here hx rfl (hb hby d5_9) rfl ?_
  show S_ p e below s₁ m 10 #[vr bx_, vr by_, vi 4] [(ii 4)] _
  refine XS.aloadN X0.here hx rfl (hb hby d5_10) rfl rfl ?_
  show S_ p e below s₁ m 11 #[vr bx_, vr by_, vi 4] [(rr bx_), (ii 4)] _
  refine ldLen X0 hx hZ e0 A0_ rfl rfl (hb hby d5_11) ?_
  show S_ p e below s₁ m 12 #[vr bx_, vr by_, vi 4] [(ii 5), (ii 4)] _
  refine XS.icmpNo X0.here hx rfl (hb hby d5_12) rfl rfl ?_
  show S_ p e below s₁ m 15 #[vr bx_, vr by_, vi 4] [] _
  refine XS.aloadN X0.here hx rfl (hb hby d5_15) rfl rfl ?_
  show S_ p e below s₁ m 16 #[vr bx_, vr by_, vi 4] [(rr bx_)] _
  refine XS.iloadN X0.here hx rfl (hb hby d5_16) rfl ?_
  show S_ p e below s₁ m 17 #[vr bx_, vr by_, vi 4] [(ii 4), (rr bx_)] _
  refine ldB X0 hx hZ e0 A0_ (v := (ii 114)) (by decide) (by decide) rfl rfl rfl (hb hby d5_17) ?_
  show S_ p e below s₁ m 18 #[vr bx_, vr by_, vi 4] [(ii 114)] _
  refine XS.aloadN X0.here hx rfl (hb hby d5_18) rfl rfl ?_
  show S_ p e below s₁ m 19 #[vr bx_, vr by_, vi 4] [(rr by_), (ii 114)] _
  refine XS.iloadN X0.here hx rfl (hb hby d5_19) rfl ?_
  show S_ p e below s₁ m 20 #[vr bx_, vr by_, vi 4] [(ii 4), (rr by_), (ii 114)] _
  refine ldB X0 hx hZ e0 A1_ (v := (ii 114)) (by decide) (by decide) rfl rfl rfl (hb hby d5_20) ?_
  show S_ p e below s₁ m 21 #[vr bx_, vr by_, vi 4] [(ii 114), (ii 114)] _
  refine yC X0.here hx rfl 21 26 rfl (hb hby d5_21) rfl rfl ?_
  show S_ p e below s₁ m 26 #[vr bx_, vr by_, vi 4] [] _
  refine XS.iinc X0.here hx rfl (hb hby d5_26) rfl (l' := #[vr bx_, vr by_, vi 5]) rfl ?_
  show S_ p e below s₁ m 29 #[vr bx_, vr by_, vi 5] [] _
  refine yG X0.here hx rfl 29 9 rfl (hb hby d5_29) ?_
  show S_ p e below s₁ m 9 #[vr bx_, vr by_, vi 5] [] _
  refine XS.iloadN X0.here hx rfl (hb hby d5_9) rfl ?_
  show S_ p e below s₁ m 10 #[vr bx_, vr by_, vi 5] [(ii 5)] _
  refine XS.aloadN X0.here hx rfl (hb hby d5_10) rfl rfl ?_
  show S_ p e below s₁ m 11 #[vr bx_, vr by_, vi 5] [(rr bx_), (ii 5)] _
  refine ldLen X0 hx hZ e0 A0_ rfl rfl (hb hby d5_11) ?_
  show S_ p e below s₁ m 12 #[vr bx_, vr by_, vi 5] [(ii 5), (ii 5)] _
  refine yC X0.here hx rfl 12 32 rfl (hb hby d5_12) rfl rfl ?_
  show S_ p e below s₁ m 32 #[vr bx_, vr by_, vi 5] [] _
  refine XS.iconst X0.here hx rfl (hb hby d5_32) ?_
  show S_ p e below s₁ m 33 #[vr bx_, vr by_, vi 5] [(ii 1)] _
  exact retN X0 hx (t := .boolean) Bd.returns (by simp) (hb hby d5_33) hr
 ·show Q_l1eq_error Z bx_ kx_ by_ ky_ h0 n0 _ s₁.heap _
  rw [e0]
  exact ⟨rfl, N0, rfl⟩
theorem ef_seq_error (m : MethodId) (x_ : Addr) (y_ : Addr) : entryFrame m #[(rr x_), (rr y_)] 3 = mkF m 0 #[vr x_, vr y_, u_] [] := by first | (simp [entryFrame, mkF, argsToLocals, Value.category]; done) | rfl
def Q_seq_error (Z : State) (x_ : Addr) (bx_ : Addr) (kx_ : ClassId) (y_ : Addr) (by_ : Addr) (ky_ : ClassId) (z_ : Int32) (h0 : Heap) (n0 : Nat) (v : Option Value) (h : Heap) (L : List Loc) : Prop := v = some (ii 1) ∧ Fr n0 L ∧ h = h0
set_option maxRecDepth 65536 in
set_option maxHeartbeats 40000000 in
theorem rm_seq_error (l : Launch) (Z : State) (a0 : Array Value) (hw : HW Z a0) (ws : List Jvm.Cond) (x_ : Addr) (bx_ : Addr) (kx_ : ClassId) (y_ : Addr) (by_ : Addr) (ky_ : ClassId) (z_ : Int32) (h0 : Heap) (n0 : Nat) (O0 : Old Z n0 h0) (E0_ : Exa Z h0 x_ nm1) (F1_ : Fld Z h0 x_ nm1 "coder" "B" (ii 0)) (F2_ : Fld Z h0 x_ nm1 "value" "[B" (rr bx_)) (A3_ : Arv Z h0 bx_ kx_ .byte (5 : Int32) [(ii 101), (ii 114), (ii 114), (ii 111), (ii 114)] (ii 0)) (E4_ : Exa Z h0 y_ nm1) (F5_ : Fld Z h0 y_ nm1 "coder" "B" (ii 0)) (F6_ : Fld Z h0 y_ nm1 "value" "[B" (rr by_)) (A7_ : Arv Z h0 by_ ky_ .byte (5 : Int32) [(ii 101), (ii 114), (ii 114), (ii 111), (ii 114)] (ii 0)) (ZS8_ : Sta Z Z.heap nm1 "COMPACT_STRINGS" "Z" (.int z_)) (hz_ : ¬ (z_ = (0 : Int32))) (NE10_ : x_ ≠ y_) :
  MFP l Z (⟨nm1, "equals", nm9⟩ : MethodName) jdk_42_method_66_code 3 (some .boolean) ({ frames := 1, cells := 0, slots := 0, locals := 14 } : Room) ws #[(rr x_), (rr y_)] h0 (Q_seq_error Z x_ bx_ kx_ y_ by_ ky_ z_ h0 n0) := by
 refine MetFree.of_bodySF (plainFor_of_name pn_java_lang_String) hisR ?_
 intro p e s m args below meth c s₁ Bd hml0 hP hK
 obtain ⟨rfl, hZ, hh⟩ := hP
 have hx := Bd.exec
 have hby := Bd.bytes
 have hml : c.maxLocals = 3 := hml0
 have hown : s.vm.findClass nm1 = some m.cls := findClass_of_methodNamed Bd.named
 have hnm := (name_of_methodNamed Bd.named Bd.method).1
 have X0 : Stand p l e ({ frames := 1, cells := 0, slots := 0, locals := 14 } : Room) s m #[(rr x_), (rr y_)] below meth c s₁ [] 0 0 := Stand.of_body Bd
 have e0 : s₁.heap = h0 := by rw [← hh, Bd.state]; rfl
 have N0 := Fr.nil n0
 have kp0 : Keep h0 h0 [] := Keep.refl _ _
 have c0 : ∀ t, S_ p e below s₁ m 0 #[vr x_, vr y_, u_] [] t → Steps p.tables e below (s₁.setTop (entryFrame m #[(rr x_), (rr y_)] 3)) t := fun t k => castTop (ef_seq_error m x_ y_) k
 generalize s₁.setTop (entryFrame m #[(rr x_), (rr y_)] 3) = st0 at c0 ⊢
 replace c0 : Kt p e below s₁ st0 (mkF m 0 #[vr x_, vr y_, u_] []) := c0
 have c1 : Kt p e below s₁ st0 (mkF m 8 #[vr x_, vr y_, u_] [(rr y_)]) := fun t k => by
  refine c0 t ?_
  show S_ p e below s₁ m 0 #[vr x_, vr y_, u_] [] t
  refine XS.aloadN X0.here hx rfl (hb hby d6_0) rfl rfl ?_
  show S_ p e below s₁ m 1 #[vr x_, vr y_, u_] [(rr x_)] t
  refine XS.aloadN X0.here hx rfl (hb hby d6_1) rfl rfl ?_
  show S_ p e below s₁ m 2 #[vr x_, vr y_, u_] [(rr y_), (rr x_)] t
  refine Jvm.RoadKit.acmp (g := (mkF m 2 #[vr x_, vr y_, u_] [(rr y_), (rr x_)])) X0 hx rfl rfl rfl (pc0 := 2) (pc' := 7) (same := false) rfl (hb hby d6_2) rfl (decide_eq_false fun q => NE10_ (Value.ref.inj q)) (by decide) (by decide) ?_
  show S_ p e below s₁ m 7 #[vr x_, vr y_, u_] [] t
  refine XS.aloadN X0.here hx rfl (hb hby d6_7) rfl rfl ?_
  exact k
 obtain ⟨T2, X2, e2, c2⟩ := kinst X0 hx hZ hown (w61 hw) e0 (Ins.self E4_) c1 rfl rfl (hb hby d6_8)
 have c3 : Kt p e below T2 st0 (mkF m 15 #[vr x_, vr y_, u_] [(rr y_)]) := fun t k => by
  refine c2 t ?_
  show S_ p e below T2 m 11 #[vr x_, vr y_, u_] [(ii 1)] t
  refine XS.ifNo X2.here hx rfl (hb hby d6_11) rfl rfl ?_
  show S_ p e below T2 m 14 #[vr x_, vr y_, u_] [] t
  refine XS.aloadN X2.here hx rfl (hb hby d6_14) rfl rfl ?_
  exact k
 obtain ⟨T4, X4, e4, c4⟩ := kcast X2 hx hZ hown (w61 hw) e2 (Ins.self E4_) c3 rfl rfl (hb hby d6_15)
 have c5 : Kt p e below T4 st0 (mkF m 19 #[vr x_, vr y_, vr y_] []) := fun t k => by
  refine c4 t ?_
  show S_ p e below T4 m 18 #[vr x_, vr y_, u_] [(rr y_)] t
  refine XS.astoreN X4.here hx rfl (hb hby d6_18) rfl rfl (l' := #[vr x_, vr y_, vr y_]) rfl ?_
  exact k
 obtain ⟨T6, X6, e6, c6⟩ := kgetS X4 hx hZ hown (host := "") (Or.inl (w17 hw)) Via.refl e4 (ZS8_.ext O0.2) c5 rfl (hb hby d6_19)
 have c7 : Kt p e below T6 st0 (mkF m 26 #[vr x_, vr y_, vr y_] [(rr x_)]) := fun t k => by
  refine c6 t ?_
  show S_ p e below T6 m 22 #[vr x_, vr y_, vr y_] [(.int z_)] t
  refine XS.ifNo X6.here hx rfl (hb hby d6_22) rfl ((if0 _ _).trans (feq hz_).1) ?_
  show S_ p e below T6 m 25 #[vr x_, vr y_, vr y_] [] t
  refine XS.aloadN X6.here hx rfl (hb hby d6_25) rfl rfl ?_
  exact k
 obtain ⟨T8, X8, e8, c8⟩ := kget X6 hx hZ hown (host := "") (Or.inl (w29 hw)) Via.refl e6 F1_ c7 rfl rfl (hb hby d6_26)
 have c9 : Kt p e below T8 st0 (mkF m 30 #[vr x_, vr y_, vr y_] [(rr y_), (ii 0)]) := fun t k => by
  refine c8 t ?_
  show S_ p e below T8 m 29 #[vr x_, vr y_, vr y_] [(ii 0)] t
  refine XS.aloadN X8.here hx rfl (hb hby d6_29) rfl rfl ?_
  exact k
 obtain ⟨T10, X10, e10, c10⟩ := kget X8 hx hZ hown (host := "") (Or.inl (w29 hw)) Via.refl e8 F5_ c9 rfl rfl (hb hby d6_30)
 have c11 : Kt p e below T10 st0 (mkF m 37 #[vr x_, vr y_, vr y_] [(rr x_)]) := fun t k => by
  refine c10 t ?_
  show S_ p e below T10 m 33 #[vr x_, vr y_, vr y_] [(ii 0), (ii 0)] t
  refine XS.icmpNo X10.here hx rfl (hb hby d6_33) rfl rfl ?_
  show S_ p e below T10 m 36 #[vr x_, vr y_, vr y_] [] t
  refine XS.aloadN X10.here hx rfl (hb hby d6_36) rfl rfl ?_
  exact k
 obtain ⟨T12, X12, e12, c12⟩ := kget X10 hx hZ hown (host := "") (Or.inl (w31 hw)) Via.refl e10 F2_ c11 rfl rfl (hb hby d6_37)
 have c13 : Kt p e below T12 st0 (mkF m 41 #[vr x_, vr y_, vr y_] [(rr y_), (rr bx_)]) := fun t k => by
  refine c12 t ?_
  show S_ p e below T12 m 40 #[vr x_, vr y_, vr y_] [(rr bx_)] t
  refine XS.aloadN X12.here hx rfl (hb hby d6_40) rfl rfl ?_
  exact k
 obtain ⟨T14, X14, e14, c14⟩ := kget X12 hx hZ hown (host := "") (Or.inl (w31 hw)) Via.refl e12 F6_ c13 rfl rfl (hb hby d6_41)
 obtain ⟨_, T15, L15, X15, hQ15, c15⟩ := kstat X14 hx hZ hown (w62 hw) (w63 hw) (w64 hw) (w65 hw) (rm_l1eq_error l Z a0 hw [] bx_ kx_ by_ ky_ h0 n0 O0 A3_ A7_) e14 c14 hml pd_pABABrZ [(rr bx_), (rr by_)] [] 0 (hb hby d6_44) rfl rfl rfl rfl rfl rfl
 obtain ⟨rfl, N16q, K17⟩ := hQ15
 have N16 := Fr.app N0 N16q
 obtain ⟨fs, hr, hrun, hended, hW, hsame⟩ := X15.leave (v := some (ii 1)) (fun h => by rw [Bd.returns] at h; cases h)
 refine ⟨_, _, c15 _ ?_, hrun, hended, _, _, rfl, ?_, ⟨_, rfl⟩, hW, hsame.mono (by decide) (by decide)⟩
 ·show S_ p e below T15 m 47 #[vr x_, vr y_, vr y_] [(ii 1)] _
  refine XS.ifNo X15.here hx rfl (hb hby d6_47) rfl rfl ?_
  show S_ p e below T15 m 50 #[vr x_, vr y_, vr y_] [] _
  refine XS.iconst X15.here hx rfl (hb hby d6_50) ?_
  show S_ p e below T15 m 51 #[vr x_, vr y_, vr y_] [(ii 1)] _
  refine yG X15.here hx rfl 51 55 rfl (hb hby d6_51) ?_
  show S_ p e below T15 m 55 #[vr x_, vr y_, vr y_] [(ii 1)] _
  exact retN X15 hx (t := .boolean) Bd.returns (by simp) (hb hby d6_55) hr
 ·show Q_seq_error Z x_ bx_ kx_ y_ by_ ky_ z_ h0 n0 _ T15.heap _
  rw [K17]
  exact ⟨rfl, N16, rfl⟩
theorem d5_34 : decode jdk_43_method_13_code 34 = .ok (.iconst 0, 1) := by decide +kernel
theorem d5_35 : decode jdk_43_method_13_code 35 = .ok (.ireturn, 1) := by decide +kernel
theorem ef_l1eq_new_changed (m : MethodId) (bx_ : Addr) (by_ : Addr) : entryFrame m #[(rr bx_), (rr by_)] 3 = mkF m 0 #[vr bx_, vr by_, u_] [] := by first | (simp [entryFrame, mkF, argsToLocals, Value.category]; done) | rfl
def Q_l1eq_new_changed (Z : State) (bx_ : Addr) (kx_ : ClassId) (by_ : Addr) (ky_ : ClassId) (vx_ : List Value) (vy_ : List Value) (h0 : Heap) (n0 : Nat) (v : Option Value) (h : Heap) (L : List Loc) : Prop := v = some (ii 0) ∧ Fr n0 L ∧ h = h0
set_option maxRecDepth 65536 in
set_option maxHeartbeats 40000000 in
theorem rm_l1eq_new_changed (l : Launch) (Z : State) (a0 : Array Value) (hw : HW Z a0) (ws : List Jvm.Cond) (bx_ : Addr) (kx_ : ClassId) (by_ : Addr) (ky_ : ClassId) (vx_ : List Value) (vy_ : List Value) (h0 : Heap) (n0 : Nat) (O0 : Old Z n0 h0) (A0_ : Arv Z h0 bx_ kx_ .byte (3 : Int32) vx_ (ii 0)) (A1_ : Arv Z h0 by_ ky_ .byte (7 : Int32) vy_ (ii 0)) :
  MFP l Z (⟨nm6, "equals", "([B[B)Z"⟩ : MethodName) jdk_43_method_13_code 3 (some .boolean) ({ frames := 0, cells := 0, slots := 0, locals := 0 } : Room) ws #[(rr bx_), (rr by_)] h0 (Q_l1eq_new_changed Z bx_ kx_ by_ ky_ vx_ vy_ h0 n0) := by
 refine MetFree.of_bodySF (plainFor_of_name pn_java_lang_StringLatin1) hisR ?_
 intro p e s m args below meth c s₁ Bd hml0 hP hK
 obtain ⟨rfl, hZ, hh⟩ := hP
 have hx := Bd.exec
 have hby := Bd.bytes
 have hml : c.maxLocals = 3 := hml0
 have hown : s.vm.findClass nm6 = some m.cls := findClass_of_methodNamed Bd.named
 have hnm := (name_of_methodNamed Bd.named Bd.method).1
 have X0 : Stand p l e ({ frames := 0, cells := 0, slots := 0, locals := 0 } : Room) s m #[(rr bx_), (rr by_)] below meth c s₁ [] 0 0 := Stand.of_body Bd
 have e0 : s₁.heap = h0 := by rw [← hh, Bd.state]; rfl
 have N0 := Fr.nil n0
 have kp0 : Keep h0 h0 [] := Keep.refl _ _
 have c0 : ∀ t, S_ p e below s₁ m 0 #[vr bx_, vr by_, u_] [] t → Steps p.tables e below (s₁.setTop (entryFrame m #[(rr bx_), (rr by_)] 3)) t := fun t k => castTop (ef_l1eq_new_changed m bx_ by_) k
 generalize s₁.setTop (entryFrame m #[(rr bx_), (rr by_)] 3) = st0 at c0 ⊢
 replace c0 : Kt p e below s₁ st0 (mkF m 0 #[vr bx_, vr by_, u_] []) := c0
 obtain ⟨fs, hr, hrun, hended, hW, hsame⟩ := X0.leave (v := some (ii 0)) (fun h => by rw [Bd.returns] at h; cases h)
 refine ⟨_, _, c0 _ ?_, hrun, hended, _, _, rfl, ?_, ⟨_, rfl⟩, hW, hsame.mono (by decide) (by decide)⟩
 ·show S_ p e below s₁ m 0 #[vr bx_, vr by_, u_] [] _
  refine XS.aloadN X0.here hx rfl (hb hby d5_0) rfl rfl ?_
  show S_ p e below s₁ m 1 #[vr bx_, vr by_, u_] [(rr bx_)] _
  refine ldLen X0 hx hZ e0 A0_ rfl rfl (hb hby d5_1) ?_
  show S_ p e below s₁ m 2 #[vr bx_, vr by_, u_] [(ii 3)] _
  refine XS.aloadN X0.here hx rfl (hb hby d5_2) rfl rfl ?_
  show S_ p e below s₁ m 3 #[vr bx_, vr by_, u_] [(rr by_), (ii 3)] _
  refine ldLen X0 hx hZ e0 A1_ rfl rfl (hb hby d5_3) ?_
  show S_ p e below s₁ m 4 #[vr bx_, vr by_, u_] [(ii 7), (ii 3)] _
  refine yC X0.here hx rfl 4 34 rfl (hb hby d5_4) rfl rfl ?_
  show S_ p e below s₁ m 34 #[vr bx_, vr by_, u_] [] _
  refine XS.iconst X0.here hx rfl (hb hby d5_34) ?_
  show S_ p e below s₁ m 35 #[vr bx_, vr by_, u_] [(ii 0)] _
  exact retN X0 hx (t := .boolean) Bd.returns (by simp) (hb hby d5_35) hr
 ·show Q_l1eq_new_changed Z bx_ kx_ by_ ky_ vx_ vy_ h0 n0 _ s₁.heap _
  rw [e0]
  exact ⟨rfl, N0, rfl⟩
theorem d6_54 : decode jdk_42_method_66_code 54 = .ok (.iconst 0, 1) := by decide +kernel
theorem ef_seq_new_changed (m : MethodId) (x_ : Addr) (y_ : Addr) : entryFrame m #[(rr x_), (rr y_)] 3 = mkF m 0 #[vr x_, vr y_, u_] [] := by first | (simp [entryFrame, mkF, argsToLocals, Value.category]; done) | rfl
def Q_seq_new_changed (Z : State) (x_ : Addr) (bx_ : Addr) (kx_ : ClassId) (y_ : Addr) (by_ : Addr) (ky_ : ClassId) (z_ : Int32) (vx_ : List Value) (vy_ : List Value) (h0 : Heap) (n0 : Nat) (v : Option Value) (h : Heap) (L : List Loc) : Prop := v = some (ii 0) ∧ Fr n0 L ∧ h = h0
set_option maxRecDepth 65536 in
set_option maxHeartbeats 40000000 in
theorem rm_seq_new_changed (l : Launch) (Z : State) (a0 : Array Value) (hw : HW Z a0) (ws : List Jvm.Cond) (x_ : Addr) (bx_ : Addr) (kx_ : ClassId) (y_ : Addr) (by_ : Addr) (ky_ : ClassId) (z_ : Int32) (vx_ : List Value) (vy_ : List Value) (h0 : Heap) (n0 : Nat) (O0 : Old Z n0 h0) (E0_ : Exa Z h0 x_ nm1) (F1_ : Fld Z h0 x_ nm1 "coder" "B" (ii 0)) (F2_ : Fld Z h0 x_ nm1 "value" "[B" (rr bx_)) (A3_ : Arv Z h0 bx_ kx_ .byte (3 : Int32) vx_ (ii 0)) (E4_ : Exa Z h0 y_ nm1) (F5_ : Fld Z h0 y_ nm1 "coder" "B" (ii 0)) (F6_ : Fld Z h0 y_ nm1 "value" "[B" (rr by_)) (A7_ : Arv Z h0 by_ ky_ .byte (7 : Int32) vy_ (ii 0)) (ZS8_ : Sta Z Z.heap nm1 "COMPACT_STRINGS" "Z" (.int z_)) (hz_ : ¬ (z_ = (0 : Int32))) (NE10_ : x_ ≠ y_) :
  MFP l Z (⟨nm1, "equals", nm9⟩ : MethodName) jdk_42_method_66_code 3 (some .boolean) ({ frames := 1, cells := 0, slots := 0, locals := 14 } : Room) ws #[(rr x_), (rr y_)] h0 (Q_seq_new_changed Z x_ bx_ kx_ y_ by_ ky_ z_ vx_ vy_ h0 n0) := by
 refine MetFree.of_bodySF (plainFor_of_name pn_java_lang_String) hisR ?_
 intro p e s m args below meth c s₁ Bd hml0 hP hK
 obtain ⟨rfl, hZ, hh⟩ := hP
 have hx := Bd.exec
 have hby := Bd.bytes
 have hml : c.maxLocals = 3 := hml0
 have hown : s.vm.findClass nm1 = some m.cls := findClass_of_methodNamed Bd.named
 have hnm := (name_of_methodNamed Bd.named Bd.method).1
 have X0 : Stand p l e ({ frames := 1, cells := 0, slots := 0, locals := 14 } : Room) s m #[(rr x_), (rr y_)] below meth c s₁ [] 0 0 := Stand.of_body Bd
 have e0 : s₁.heap = h0 := by rw [← hh, Bd.state]; rfl
 have N0 := Fr.nil n0
 have kp0 : Keep h0 h0 [] := Keep.refl _ _
 have c0 : ∀ t, S_ p e below s₁ m 0 #[vr x_, vr y_, u_] [] t → Steps p.tables e below (s₁.setTop (entryFrame m #[(rr x_), (rr y_)] 3)) t := fun t k => castTop (ef_seq_new_changed m x_ y_) k
 generalize s₁.setTop (entryFrame m #[(rr x_), (rr y_)] 3) = st0 at c0 ⊢
 replace c0 : Kt p e below s₁ st0 (mkF m 0 #[vr x_, vr y_, u_] []) := c0
 have c1 : Kt p e below s₁ st0 (mkF m 8 #[vr x_, vr y_, u_] [(rr y_)]) := fun t k => by
  refine c0 t ?_
  show S_ p e below s₁ m 0 #[vr x_, vr y_, u_] [] t
  refine XS.aloadN X0.here hx rfl (hb hby d6_0) rfl rfl ?_
  show S_ p e below s₁ m 1 #[vr x_, vr y_, u_] [(rr x_)] t
  refine XS.aloadN X0.here hx rfl (hb hby d6_1) rfl rfl ?_
  show S_ p e below s₁ m 2 #[vr x_, vr y_, u_] [(rr y_), (rr x_)] t
  refine Jvm.RoadKit.acmp (g := (mkF m 2 #[vr x_, vr y_, u_] [(rr y_), (rr x_)])) X0 hx rfl rfl rfl (pc0 := 2) (pc' := 7) (same := false) rfl (hb hby d6_2) rfl (decide_eq_false fun q => NE10_ (Value.ref.inj q)) (by decide) (by decide) ?_
  show S_ p e below s₁ m 7 #[vr x_, vr y_, u_] [] t
  refine XS.aloadN X0.here hx rfl (hb hby d6_7) rfl rfl ?_
  exact k
 obtain ⟨T2, X2, e2, c2⟩ := kinst X0 hx hZ hown (w61 hw) e0 (Ins.self E4_) c1 rfl rfl (hb hby d6_8)
 have c3 : Kt p e below T2 st0 (mkF m 15 #[vr x_, vr y_, u_] [(rr y_)]) := fun t k => by
  refine c2 t ?_
  show S_ p e below T2 m 11 #[vr x_, vr y_, u_] [(ii 1)] t
  refine XS.ifNo X2.here hx rfl (hb hby d6_11) rfl rfl ?_
  show S_ p e below T2 m 14 #[vr x_, vr y_, u_] [] t
  refine XS.aloadN X2.here hx rfl (hb hby d6_14) rfl rfl ?_
  exact k
 obtain ⟨T4, X4, e4, c4⟩ := kcast X2 hx hZ hown (w61 hw) e2 (Ins.self E4_) c3 rfl rfl (hb hby d6_15)
 have c5 : Kt p e below T4 st0 (mkF m 19 #[vr x_, vr y_, vr y_] []) := fun t k => by
  refine c4 t ?_
  show S_ p e below T4 m 18 #[vr x_, vr y_, u_] [(rr y_)] t
  refine XS.astoreN X4.here hx rfl (hb hby d6_18) rfl rfl (l' := #[vr x_, vr y_, vr y_]) rfl ?_
  exact k
 obtain ⟨T6, X6, e6, c6⟩ := kgetS X4 hx hZ hown (host := "") (Or.inl (w17 hw)) Via.refl e4 (ZS8_.ext O0.2) c5 rfl (hb hby d6_19)
 have c7 : Kt p e below T6 st0 (mkF m 26 #[vr x_, vr y_, vr y_] [(rr x_)]) := fun t k => by
  refine c6 t ?_
  show S_ p e below T6 m 22 #[vr x_, vr y_, vr y_] [(.int z_)] t
  refine XS.ifNo X6.here hx rfl (hb hby d6_22) rfl ((if0 _ _).trans (feq hz_).1) ?_
  show S_ p e below T6 m 25 #[vr x_, vr y_, vr y_] [] t
  refine XS.aloadN X6.here hx rfl (hb hby d6_25) rfl rfl ?_
  exact k
 obtain ⟨T8, X8, e8, c8⟩ := kget X6 hx hZ hown (host := "") (Or.inl (w29 hw)) Via.refl e6 F1_ c7 rfl rfl (hb hby d6_26)
 have c9 : Kt p e below T8 st0 (mkF m 30 #[vr x_, vr y_, vr y_] [(rr y_), (ii 0)]) := fun t k => by
  refine c8 t ?_
  show S_ p e below T8 m 29 #[vr x_, vr y_, vr y_] [(ii 0)] t
  refine XS.aloadN X8.here hx rfl (hb hby d6_29) rfl rfl ?_
  exact k
 obtain ⟨T10, X10, e10, c10⟩ := kget X8 hx hZ hown (host := "") (Or.inl (w29 hw)) Via.refl e8 F5_ c9 rfl rfl (hb hby d6_30)
 have c11 : Kt p e below T10 st0 (mkF m 37 #[vr x_, vr y_, vr y_] [(rr x_)]) := fun t k => by
  refine c10 t ?_
  show S_ p e below T10 m 33 #[vr x_, vr y_, vr y_] [(ii 0), (ii 0)] t
  refine XS.icmpNo X10.here hx rfl (hb hby d6_33) rfl rfl ?_
  show S_ p e below T10 m 36 #[vr x_, vr y_, vr y_] [] t
  refine XS.aloadN X10.here hx rfl (hb hby d6_36) rfl rfl ?_
  exact k
 obtain ⟨T12, X12, e12, c12⟩ := kget X10 hx hZ hown (host := "") (Or.inl (w31 hw)) Via.refl e10 F2_ c11 rfl rfl (hb hby d6_37)
 have c13 : Kt p e below T12 st0 (mkF m 41 #[vr x_, vr y_, vr y_] [(rr y_), (rr bx_)]) := fun t k => by
  refine c12 t ?_
  show S_ p e below T12 m 40 #[vr x_, vr y_, vr y_] [(rr bx_)] t
  refine XS.aloadN X12.here hx rfl (hb hby d6_40) rfl rfl ?_
  exact k
 obtain ⟨T14, X14, e14, c14⟩ := kget X12 hx hZ hown (host := "") (Or.inl (w31 hw)) Via.refl e12 F6_ c13 rfl rfl (hb hby d6_41)
 obtain ⟨_, T15, L15, X15, hQ15, c15⟩ := kstat X14 hx hZ hown (w62 hw) (w63 hw) (w64 hw) (w65 hw) (rm_l1eq_new_changed l Z a0 hw [] bx_ kx_ by_ ky_ vx_ vy_ h0 n0 O0 A3_ A7_) e14 c14 hml pd_pABABrZ [(rr bx_), (rr by_)] [] 0 (hb hby d6_44) rfl rfl rfl rfl rfl rfl
 obtain ⟨rfl, N16q, K17⟩ := hQ15
 have N16 := Fr.app N0 N16q
 obtain ⟨fs, hr, hrun, hended, hW, hsame⟩ := X15.leave (v := some (ii 0)) (fun h => by rw [Bd.returns] at h; cases h)
 refine ⟨_, _, c15 _ ?_, hrun, hended, _, _, rfl, ?_, ⟨_, rfl⟩, hW, hsame.mono (by decide) (by decide)⟩
 ·show S_ p e below T15 m 47 #[vr x_, vr y_, vr y_] [(ii 0)] _
  refine yI X15.here hx rfl 47 54 rfl (hb hby d6_47) rfl rfl ?_
  show S_ p e below T15 m 54 #[vr x_, vr y_, vr y_] [] _
  refine XS.iconst X15.here hx rfl (hb hby d6_54) ?_
  show S_ p e below T15 m 55 #[vr x_, vr y_, vr y_] [(ii 0)] _
  exact retN X15 hx (t := .boolean) Bd.returns (by simp) (hb hby d6_55) hr
 ·show Q_seq_new_changed Z x_ bx_ kx_ y_ by_ ky_ z_ vx_ vy_ h0 n0 _ T15.heap _
  rw [K17]
  exact ⟨rfl, N16, rfl⟩
theorem ef_l1eq_new_unchanged (m : MethodId) (bx_ : Addr) (by_ : Addr) : entryFrame m #[(rr bx_), (rr by_)] 3 = mkF m 0 #[vr bx_, vr by_, u_] [] := by first | (simp [entryFrame, mkF, argsToLocals, Value.category]; done) | rfl
def Q_l1eq_new_unchanged (Z : State) (bx_ : Addr) (kx_ : ClassId) (by_ : Addr) (ky_ : ClassId) (vx_ : List Value) (vy_ : List Value) (h0 : Heap) (n0 : Nat) (v : Option Value) (h : Heap) (L : List Loc) : Prop := v = some (ii 0) ∧ Fr n0 L ∧ h = h0
set_option maxRecDepth 65536 in
set_option maxHeartbeats 40000000 in
theorem rm_l1eq_new_unchanged (l : Launch) (Z : State) (a0 : Array Value) (hw : HW Z a0) (ws : List Jvm.Cond) (bx_ : Addr) (kx_ : ClassId) (by_ : Addr) (ky_ : ClassId) (vx_ : List Value) (vy_ : List Value) (h0 : Heap) (n0 : Nat) (O0 : Old Z n0 h0) (A0_ : Arv Z h0 bx_ kx_ .byte (3 : Int32) vx_ (ii 0)) (A1_ : Arv Z h0 by_ ky_ .byte (9 : Int32) vy_ (ii 0)) :
  MFP l Z (⟨nm6, "equals", "([B[B)Z"⟩ : MethodName) jdk_43_method_13_code 3 (some .boolean) ({ frames := 0, cells := 0, slots := 0, locals := 0 } : Room) ws #[(rr bx_), (rr by_)] h0 (Q_l1eq_new_unchanged Z bx_ kx_ by_ ky_ vx_ vy_ h0 n0) := by
 refine MetFree.of_bodySF (plainFor_of_name pn_java_lang_StringLatin1) hisR ?_
 intro p e s m args below meth c s₁ Bd hml0 hP hK
 obtain ⟨rfl, hZ, hh⟩ := hP
 have hx := Bd.exec
 have hby := Bd.bytes
 have hml : c.maxLocals = 3 := hml0
 have hown : s.vm.findClass nm6 = some m.cls := findClass_of_methodNamed Bd.named
 have hnm := (name_of_methodNamed Bd.named Bd.method).1
 have X0 : Stand p l e ({ frames := 0, cells := 0, slots := 0, locals := 0 } : Room) s m #[(rr bx_), (rr by_)] below meth c s₁ [] 0 0 := Stand.of_body Bd
 have e0 : s₁.heap = h0 := by rw [← hh, Bd.state]; rfl
 have N0 := Fr.nil n0
 have kp0 : Keep h0 h0 [] := Keep.refl _ _
 have c0 : ∀ t, S_ p e below s₁ m 0 #[vr bx_, vr by_, u_] [] t → Steps p.tables e below (s₁.setTop (entryFrame m #[(rr bx_), (rr by_)] 3)) t := fun t k => castTop (ef_l1eq_new_unchanged m bx_ by_) k
 generalize s₁.setTop (entryFrame m #[(rr bx_), (rr by_)] 3) = st0 at c0 ⊢
 replace c0 : Kt p e below s₁ st0 (mkF m 0 #[vr bx_, vr by_, u_] []) := c0
 obtain ⟨fs, hr, hrun, hended, hW, hsame⟩ := X0.leave (v := some (ii 0)) (fun h => by rw [Bd.returns] at h; cases h)
 refine ⟨_, _, c0 _ ?_, hrun, hended, _, _, rfl, ?_, ⟨_, rfl⟩, hW, hsame.mono (by decide) (by decide)⟩
 ·show S_ p e below s₁ m 0 #[vr bx_, vr by_, u_] [] _
  refine XS.aloadN X0.here hx rfl (hb hby d5_0) rfl rfl ?_
  show S_ p e below s₁ m 1 #[vr bx_, vr by_, u_] [(rr bx_)] _
  refine ldLen X0 hx hZ e0 A0_ rfl rfl (hb hby d5_1) ?_
  show S_ p e below s₁ m 2 #[vr bx_, vr by_, u_] [(ii 3)] _
  refine XS.aloadN X0.here hx rfl (hb hby d5_2) rfl rfl ?_
  show S_ p e below s₁ m 3 #[vr bx_, vr by_, u_] [(rr by_), (ii 3)] _
  refine ldLen X0 hx hZ e0 A1_ rfl rfl (hb hby d5_3) ?_
  show S_ p e below s₁ m 4 #[vr bx_, vr by_, u_] [(ii 9), (ii 3)] _
  refine yC X0.here hx rfl 4 34 rfl (hb hby d5_4) rfl rfl ?_
  show S_ p e below s₁ m 34 #[vr bx_, vr by_, u_] [] _
  refine XS.iconst X0.here hx rfl (hb hby d5_34) ?_
  show S_ p e below s₁ m 35 #[vr bx_, vr by_, u_] [(ii 0)] _
  exact retN X0 hx (t := .boolean) Bd.returns (by simp) (hb hby d5_35) hr
 ·show Q_l1eq_new_unchanged Z bx_ kx_ by_ ky_ vx_ vy_ h0 n0 _ s₁.heap _
  rw [e0]
  exact ⟨rfl, N0, rfl⟩
theorem ef_seq_new_unchanged (m : MethodId) (x_ : Addr) (y_ : Addr) : entryFrame m #[(rr x_), (rr y_)] 3 = mkF m 0 #[vr x_, vr y_, u_] [] := by first | (simp [entryFrame, mkF, argsToLocals, Value.category]; done) | rfl
def Q_seq_new_unchanged (Z : State) (x_ : Addr) (bx_ : Addr) (kx_ : ClassId) (y_ : Addr) (by_ : Addr) (ky_ : ClassId) (z_ : Int32) (vx_ : List Value) (vy_ : List Value) (h0 : Heap) (n0 : Nat) (v : Option Value) (h : Heap) (L : List Loc) : Prop := v = some (ii 0) ∧ Fr n0 L ∧ h = h0
set_option maxRecDepth 65536 in
set_option maxHeartbeats 40000000 in
theorem rm_seq_new_unchanged (l : Launch) (Z : State) (a0 : Array Value) (hw : HW Z a0) (ws : List Jvm.Cond) (x_ : Addr) (bx_ : Addr) (kx_ : ClassId) (y_ : Addr) (by_ : Addr) (ky_ : ClassId) (z_ : Int32) (vx_ : List Value) (vy_ : List Value) (h0 : Heap) (n0 : Nat) (O0 : Old Z n0 h0) (E0_ : Exa Z h0 x_ nm1) (F1_ : Fld Z h0 x_ nm1 "coder" "B" (ii 0)) (F2_ : Fld Z h0 x_ nm1 "value" "[B" (rr bx_)) (A3_ : Arv Z h0 bx_ kx_ .byte (3 : Int32) vx_ (ii 0)) (E4_ : Exa Z h0 y_ nm1) (F5_ : Fld Z h0 y_ nm1 "coder" "B" (ii 0)) (F6_ : Fld Z h0 y_ nm1 "value" "[B" (rr by_)) (A7_ : Arv Z h0 by_ ky_ .byte (9 : Int32) vy_ (ii 0)) (ZS8_ : Sta Z Z.heap nm1 "COMPACT_STRINGS" "Z" (.int z_)) (hz_ : ¬ (z_ = (0 : Int32))) (NE10_ : x_ ≠ y_) :
  MFP l Z (⟨nm1, "equals", nm9⟩ : MethodName) jdk_42_method_66_code 3 (some .boolean) ({ frames := 1, cells := 0, slots := 0, locals := 14 } : Room) ws #[(rr x_), (rr y_)] h0 (Q_seq_new_unchanged Z x_ bx_ kx_ y_ by_ ky_ z_ vx_ vy_ h0 n0) := by
 refine MetFree.of_bodySF (plainFor_of_name pn_java_lang_String) hisR ?_
 intro p e s m args below meth c s₁ Bd hml0 hP hK
 obtain ⟨rfl, hZ, hh⟩ := hP
 have hx := Bd.exec
 have hby := Bd.bytes
 have hml : c.maxLocals = 3 := hml0
 have hown : s.vm.findClass nm1 = some m.cls := findClass_of_methodNamed Bd.named
 have hnm := (name_of_methodNamed Bd.named Bd.method).1
 have X0 : Stand p l e ({ frames := 1, cells := 0, slots := 0, locals := 14 } : Room) s m #[(rr x_), (rr y_)] below meth c s₁ [] 0 0 := Stand.of_body Bd
 have e0 : s₁.heap = h0 := by rw [← hh, Bd.state]; rfl
 have N0 := Fr.nil n0
 have kp0 : Keep h0 h0 [] := Keep.refl _ _
 have c0 : ∀ t, S_ p e below s₁ m 0 #[vr x_, vr y_, u_] [] t → Steps p.tables e below (s₁.setTop (entryFrame m #[(rr x_), (rr y_)] 3)) t := fun t k => castTop (ef_seq_new_unchanged m x_ y_) k
 generalize s₁.setTop (entryFrame m #[(rr x_), (rr y_)] 3) = st0 at c0 ⊢
 replace c0 : Kt p e below s₁ st0 (mkF m 0 #[vr x_, vr y_, u_] []) := c0
 have c1 : Kt p e below s₁ st0 (mkF m 8 #[vr x_, vr y_, u_] [(rr y_)]) := fun t k => by
  refine c0 t ?_
  show S_ p e below s₁ m 0 #[vr x_, vr y_, u_] [] t
  refine XS.aloadN X0.here hx rfl (hb hby d6_0) rfl rfl ?_
  show S_ p e below s₁ m 1 #[vr x_, vr y_, u_] [(rr x_)] t
  refine XS.aloadN X0.here hx rfl (hb hby d6_1) rfl rfl ?_
  show S_ p e below s₁ m 2 #[vr x_, vr y_, u_] [(rr y_), (rr x_)] t
  refine Jvm.RoadKit.acmp (g := (mkF m 2 #[vr x_, vr y_, u_] [(rr y_), (rr x_)])) X0 hx rfl rfl rfl (pc0 := 2) (pc' := 7) (same := false) rfl (hb hby d6_2) rfl (decide_eq_false fun q => NE10_ (Value.ref.inj q)) (by decide) (by decide) ?_
  show S_ p e below s₁ m 7 #[vr x_, vr y_, u_] [] t
  refine XS.aloadN X0.here hx rfl (hb hby d6_7) rfl rfl ?_
  exact k
 obtain ⟨T2, X2, e2, c2⟩ := kinst X0 hx hZ hown (w61 hw) e0 (Ins.self E4_) c1 rfl rfl (hb hby d6_8)
 have c3 : Kt p e below T2 st0 (mkF m 15 #[vr x_, vr y_, u_] [(rr y_)]) := fun t k => by
  refine c2 t ?_
  show S_ p e below T2 m 11 #[vr x_, vr y_, u_] [(ii 1)] t
  refine XS.ifNo X2.here hx rfl (hb hby d6_11) rfl rfl ?_
  show S_ p e below T2 m 14 #[vr x_, vr y_, u_] [] t
  refine XS.aloadN X2.here hx rfl (hb hby d6_14) rfl rfl ?_
  exact k
 obtain ⟨T4, X4, e4, c4⟩ := kcast X2 hx hZ hown (w61 hw) e2 (Ins.self E4_) c3 rfl rfl (hb hby d6_15)
 have c5 : Kt p e below T4 st0 (mkF m 19 #[vr x_, vr y_, vr y_] []) := fun t k => by
  refine c4 t ?_
  show S_ p e below T4 m 18 #[vr x_, vr y_, u_] [(rr y_)] t
  refine XS.astoreN X4.here hx rfl (hb hby d6_18) rfl rfl (l' := #[vr x_, vr y_, vr y_]) rfl ?_
  exact k
 obtain ⟨T6, X6, e6, c6⟩ := kgetS X4 hx hZ hown (host := "") (Or.inl (w17 hw)) Via.refl e4 (ZS8_.ext O0.2) c5 rfl (hb hby d6_19)
 have c7 : Kt p e below T6 st0 (mkF m 26 #[vr x_, vr y_, vr y_] [(rr x_)]) := fun t k => by
  refine c6 t ?_
  show S_ p e below T6 m 22 #[vr x_, vr y_, vr y_] [(.int z_)] t
  refine XS.ifNo X6.here hx rfl (hb hby d6_22) rfl ((if0 _ _).trans (feq hz_).1) ?_
  show S_ p e below T6 m 25 #[vr x_, vr y_, vr y_] [] t
  refine XS.aloadN X6.here hx rfl (hb hby d6_25) rfl rfl ?_
  exact k
 obtain ⟨T8, X8, e8, c8⟩ := kget X6 hx hZ hown (host := "") (Or.inl (w29 hw)) Via.refl e6 F1_ c7 rfl rfl (hb hby d6_26)
 have c9 : Kt p e below T8 st0 (mkF m 30 #[vr x_, vr y_, vr y_] [(rr y_), (ii 0)]) := fun t k => by
  refine c8 t ?_
  show S_ p e below T8 m 29 #[vr x_, vr y_, vr y_] [(ii 0)] t
  refine XS.aloadN X8.here hx rfl (hb hby d6_29) rfl rfl ?_
  exact k
 obtain ⟨T10, X10, e10, c10⟩ := kget X8 hx hZ hown (host := "") (Or.inl (w29 hw)) Via.refl e8 F5_ c9 rfl rfl (hb hby d6_30)
 have c11 : Kt p e below T10 st0 (mkF m 37 #[vr x_, vr y_, vr y_] [(rr x_)]) := fun t k => by
  refine c10 t ?_
  show S_ p e below T10 m 33 #[vr x_, vr y_, vr y_] [(ii 0), (ii 0)] t
  refine XS.icmpNo X10.here hx rfl (hb hby d6_33) rfl rfl ?_
  show S_ p e below T10 m 36 #[vr x_, vr y_, vr y_] [] t
  refine XS.aloadN X10.here hx rfl (hb hby d6_36) rfl rfl ?_
  exact k
 obtain ⟨T12, X12, e12, c12⟩ := kget X10 hx hZ hown (host := "") (Or.inl (w31 hw)) Via.refl e10 F2_ c11 rfl rfl (hb hby d6_37)
 have c13 : Kt p e below T12 st0 (mkF m 41 #[vr x_, vr y_, vr y_] [(rr y_), (rr bx_)]) := fun t k => by
  refine c12 t ?_
  show S_ p e below T12 m 40 #[vr x_, vr y_, vr y_] [(rr bx_)] t
  refine XS.aloadN X12.here hx rfl (hb hby d6_40) rfl rfl ?_
  exact k
 obtain ⟨T14, X14, e14, c14⟩ := kget X12 hx hZ hown (host := "") (Or.inl (w31 hw)) Via.refl e12 F6_ c13 rfl rfl (hb hby d6_41)
 obtain ⟨_, T15, L15, X15, hQ15, c15⟩ := kstat X14 hx hZ hown (w62 hw) (w63 hw) (w64 hw) (w65 hw) (rm_l1eq_new_unchanged l Z a0 hw [] bx_ kx_ by_ ky_ vx_ vy_ h0 n0 O0 A3_ A7_) e14 c14 hml pd_pABABrZ [(rr bx_), (rr by_)] [] 0 (hb hby d6_44) rfl rfl rfl rfl rfl rfl
 obtain ⟨rfl, N16q, K17⟩ := hQ15
 have N16 := Fr.app N0 N16q
 obtain ⟨fs, hr, hrun, hended, hW, hsame⟩ := X15.leave (v := some (ii 0)) (fun h => by rw [Bd.returns] at h; cases h)
 refine ⟨_, _, c15 _ ?_, hrun, hended, _, _, rfl, ?_, ⟨_, rfl⟩, hW, hsame.mono (by decide) (by decide)⟩
 ·show S_ p e below T15 m 47 #[vr x_, vr y_, vr y_] [(ii 0)] _
  refine yI X15.here hx rfl 47 54 rfl (hb hby d6_47) rfl rfl ?_
  show S_ p e below T15 m 54 #[vr x_, vr y_, vr y_] [] _
  refine XS.iconst X15.here hx rfl (hb hby d6_54) ?_
  show S_ p e below T15 m 55 #[vr x_, vr y_, vr y_] [(ii 0)] _
  exact retN X15 hx (t := .boolean) Bd.returns (by simp) (hb hby d6_55) hr
 ·show Q_seq_new_unchanged Z x_ bx_ kx_ y_ by_ ky_ z_ vx_ vy_ h0 n0 _ T15.heap _
  rw [K17]
  exact ⟨rfl, N16, rfl⟩
theorem ef_l1eq_changed_unchanged (m : MethodId) (bx_ : Addr) (by_ : Addr) : entryFrame m #[(rr bx_), (rr by_)] 3 = mkF m 0 #[vr bx_, vr by_, u_] [] := by first | (simp [entryFrame, mkF, argsToLocals, Value.category]; done) | rfl
def Q_l1eq_changed_unchanged (Z : State) (bx_ : Addr) (kx_ : ClassId) (by_ : Addr) (ky_ : ClassId) (vx_ : List Value) (vy_ : List Value) (h0 : Heap) (n0 : Nat) (v : Option Value) (h : Heap) (L : List Loc) : Prop := v = some (ii 0) ∧ Fr n0 L ∧ h = h0
set_option maxRecDepth 65536 in
set_option maxHeartbeats 40000000 in
theorem rm_l1eq_changed_unchanged (l : Launch) (Z : State) (a0 : Array Value) (hw : HW Z a0) (ws : List Jvm.Cond) (bx_ : Addr) (kx_ : ClassId) (by_ : Addr) (ky_ : ClassId) (vx_ : List Value) (vy_ : List Value) (h0 : Heap) (n0 : Nat) (O0 : Old Z n0 h0) (A0_ : Arv Z h0 bx_ kx_ .byte (7 : Int32) vx_ (ii 0)) (A1_ : Arv Z h0 by_ ky_ .byte (9 : Int32) vy_ (ii 0)) :
  MFP l Z (⟨nm6, "equals", "([B[B)Z"⟩ : MethodName) jdk_43_method_13_code 3 (some .boolean) ({ frames := 0, cells := 0, slots := 0, locals := 0 } : Room) ws #[(rr bx_), (rr by_)] h0 (Q_l1eq_changed_unchanged Z bx_ kx_ by_ ky_ vx_ vy_ h0 n0) := by
 refine MetFree.of_bodySF (plainFor_of_name pn_java_lang_StringLatin1) hisR ?_
 intro p e s m args below meth c s₁ Bd hml0 hP hK
 obtain ⟨rfl, hZ, hh⟩ := hP
 have hx := Bd.exec
 have hby := Bd.bytes
 have hml : c.maxLocals = 3 := hml0
 have hown : s.vm.findClass nm6 = some m.cls := findClass_of_methodNamed Bd.named
 have hnm := (name_of_methodNamed Bd.named Bd.method).1
 have X0 : Stand p l e ({ frames := 0, cells := 0, slots := 0, locals := 0 } : Room) s m #[(rr bx_), (rr by_)] below meth c s₁ [] 0 0 := Stand.of_body Bd
 have e0 : s₁.heap = h0 := by rw [← hh, Bd.state]; rfl
 have N0 := Fr.nil n0
 have kp0 : Keep h0 h0 [] := Keep.refl _ _
 have c0 : ∀ t, S_ p e below s₁ m 0 #[vr bx_, vr by_, u_] [] t → Steps p.tables e below (s₁.setTop (entryFrame m #[(rr bx_), (rr by_)] 3)) t := fun t k => castTop (ef_l1eq_changed_unchanged m bx_ by_) k
 generalize s₁.setTop (entryFrame m #[(rr bx_), (rr by_)] 3) = st0 at c0 ⊢
 replace c0 : Kt p e below s₁ st0 (mkF m 0 #[vr bx_, vr by_, u_] []) := c0
 obtain ⟨fs, hr, hrun, hended, hW, hsame⟩ := X0.leave (v := some (ii 0)) (fun h => by rw [Bd.returns] at h; cases h)
 refine ⟨_, _, c0 _ ?_, hrun, hended, _, _, rfl, ?_, ⟨_, rfl⟩, hW, hsame.mono (by decide) (by decide)⟩
 ·show S_ p e below s₁ m 0 #[vr bx_, vr by_, u_] [] _
  refine XS.aloadN X0.here hx rfl (hb hby d5_0) rfl rfl ?_
  show S_ p e below s₁ m 1 #[vr bx_, vr by_, u_] [(rr bx_)] _
  refine ldLen X0 hx hZ e0 A0_ rfl rfl (hb hby d5_1) ?_
  show S_ p e below s₁ m 2 #[vr bx_, vr by_, u_] [(ii 7)] _
  refine XS.aloadN X0.here hx rfl (hb hby d5_2) rfl rfl ?_
  show S_ p e below s₁ m 3 #[vr bx_, vr by_, u_] [(rr by_), (ii 7)] _
  refine ldLen X0 hx hZ e0 A1_ rfl rfl (hb hby d5_3) ?_
  show S_ p e below s₁ m 4 #[vr bx_, vr by_, u_] [(ii 9), (ii 7)] _
  refine yC X0.here hx rfl 4 34 rfl (hb hby d5_4) rfl rfl ?_
  show S_ p e below s₁ m 34 #[vr bx_, vr by_, u_] [] _
  refine XS.iconst X0.here hx rfl (hb hby d5_34) ?_
  show S_ p e below s₁ m 35 #[vr bx_, vr by_, u_] [(ii 0)] _
  exact retN X0 hx (t := .boolean) Bd.returns (by simp) (hb hby d5_35) hr
 ·show Q_l1eq_changed_unchanged Z bx_ kx_ by_ ky_ vx_ vy_ h0 n0 _ s₁.heap _
  rw [e0]
  exact ⟨rfl, N0, rfl⟩
theorem ef_seq_changed_unchanged (m : MethodId) (x_ : Addr) (y_ : Addr) : entryFrame m #[(rr x_), (rr y_)] 3 = mkF m 0 #[vr x_, vr y_, u_] [] := by first | (simp [entryFrame, mkF, argsToLocals, Value.category]; done) | rfl
def Q_seq_changed_unchanged (Z : State) (x_ : Addr) (bx_ : Addr) (kx_ : ClassId) (y_ : Addr) (by_ : Addr) (ky_ : ClassId) (z_ : Int32) (vx_ : List Value) (vy_ : List Value) (h0 : Heap) (n0 : Nat) (v : Option Value) (h : Heap) (L : List Loc) : Prop := v = some (ii 0) ∧ Fr n0 L ∧ h = h0
set_option maxRecDepth 65536 in
set_option maxHeartbeats 40000000 in
theorem rm_seq_changed_unchanged (l : Launch) (Z : State) (a0 : Array Value) (hw : HW Z a0) (ws : List Jvm.Cond) (x_ : Addr) (bx_ : Addr) (kx_ : ClassId) (y_ : Addr) (by_ : Addr) (ky_ : ClassId) (z_ : Int32) (vx_ : List Value) (vy_ : List Value) (h0 : Heap) (n0 : Nat) (O0 : Old Z n0 h0) (E0_ : Exa Z h0 x_ nm1) (F1_ : Fld Z h0 x_ nm1 "coder" "B" (ii 0)) (F2_ : Fld Z h0 x_ nm1 "value" "[B" (rr bx_)) (A3_ : Arv Z h0 bx_ kx_ .byte (7 : Int32) vx_ (ii 0)) (E4_ : Exa Z h0 y_ nm1) (F5_ : Fld Z h0 y_ nm1 "coder" "B" (ii 0)) (F6_ : Fld Z h0 y_ nm1 "value" "[B" (rr by_)) (A7_ : Arv Z h0 by_ ky_ .byte (9 : Int32) vy_ (ii 0)) (ZS8_ : Sta Z Z.heap nm1 "COMPACT_STRINGS" "Z" (.int z_)) (hz_ : ¬ (z_ = (0 : Int32))) (NE10_ : x_ ≠ y_) :
  MFP l Z (⟨nm1, "equals", nm9⟩ : MethodName) jdk_42_method_66_code 3 (some .boolean) ({ frames := 1, cells := 0, slots := 0, locals := 14 } : Room) ws #[(rr x_), (rr y_)] h0 (Q_seq_changed_unchanged Z x_ bx_ kx_ y_ by_ ky_ z_ vx_ vy_ h0 n0) := by
 refine MetFree.of_bodySF (plainFor_of_name pn_java_lang_String) hisR ?_
 intro p e s m args below meth c s₁ Bd hml0 hP hK
 obtain ⟨rfl, hZ, hh⟩ := hP
 have hx := Bd.exec
 have hby := Bd.bytes
 have hml : c.maxLocals = 3 := hml0
 have hown : s.vm.findClass nm1 = some m.cls := findClass_of_methodNamed Bd.named
 have hnm := (name_of_methodNamed Bd.named Bd.method).1
 have X0 : Stand p l e ({ frames := 1, cells := 0, slots := 0, locals := 14 } : Room) s m #[(rr x_), (rr y_)] below meth c s₁ [] 0 0 := Stand.of_body Bd
 have e0 : s₁.heap = h0 := by rw [← hh, Bd.state]; rfl
 have N0 := Fr.nil n0
 have kp0 : Keep h0 h0 [] := Keep.refl _ _
 have c0 : ∀ t, S_ p e below s₁ m 0 #[vr x_, vr y_, u_] [] t → Steps p.tables e below (s₁.setTop (entryFrame m #[(rr x_), (rr y_)] 3)) t := fun t k => castTop (ef_seq_changed_unchanged m x_ y_) k
 generalize s₁.setTop (entryFrame m #[(rr x_), (rr y_)] 3) = st0 at c0 ⊢
 replace c0 : Kt p e below s₁ st0 (mkF m 0 #[vr x_, vr y_, u_] []) := c0
 have c1 : Kt p e below s₁ st0 (mkF m 8 #[vr x_, vr y_, u_] [(rr y_)]) := fun t k => by
  refine c0 t ?_
  show S_ p e below s₁ m 0 #[vr x_, vr y_, u_] [] t
  refine XS.aloadN X0.here hx rfl (hb hby d6_0) rfl rfl ?_
  show S_ p e below s₁ m 1 #[vr x_, vr y_, u_] [(rr x_)] t
  refine XS.aloadN X0.here hx rfl (hb hby d6_1) rfl rfl ?_
  show S_ p e below s₁ m 2 #[vr x_, vr y_, u_] [(rr y_), (rr x_)] t
  refine Jvm.RoadKit.acmp (g := (mkF m 2 #[vr x_, vr y_, u_] [(rr y_), (rr x_)])) X0 hx rfl rfl rfl (pc0 := 2) (pc' := 7) (same := false) rfl (hb hby d6_2) rfl (decide_eq_false fun q => NE10_ (Value.ref.inj q)) (by decide) (by decide) ?_
  show S_ p e below s₁ m 7 #[vr x_, vr y_, u_] [] t
  refine XS.aloadN X0.here hx rfl (hb hby d6_7) rfl rfl ?_
  exact k
 obtain ⟨T2, X2, e2, c2⟩ := kinst X0 hx hZ hown (w61 hw) e0 (Ins.self E4_) c1 rfl rfl (hb hby d6_8)
 have c3 : Kt p e below T2 st0 (mkF m 15 #[vr x_, vr y_, u_] [(rr y_)]) := fun t k => by
  refine c2 t ?_
  show S_ p e below T2 m 11 #[vr x_, vr y_, u_] [(ii 1)] t
  refine XS.ifNo X2.here hx rfl (hb hby d6_11) rfl rfl ?_
  show S_ p e below T2 m 14 #[vr x_, vr y_, u_] [] t
  refine XS.aloadN X2.here hx rfl (hb hby d6_14) rfl rfl ?_
  exact k
 obtain ⟨T4, X4, e4, c4⟩ := kcast X2 hx hZ hown (w61 hw) e2 (Ins.self E4_) c3 rfl rfl (hb hby d6_15)
 have c5 : Kt p e below T4 st0 (mkF m 19 #[vr x_, vr y_, vr y_] []) := fun t k => by
  refine c4 t ?_
  show S_ p e below T4 m 18 #[vr x_, vr y_, u_] [(rr y_)] t
  refine XS.astoreN X4.here hx rfl (hb hby d6_18) rfl rfl (l' := #[vr x_, vr y_, vr y_]) rfl ?_
  exact k
 obtain ⟨T6, X6, e6, c6⟩ := kgetS X4 hx hZ hown (host := "") (Or.inl (w17 hw)) Via.refl e4 (ZS8_.ext O0.2) c5 rfl (hb hby d6_19)
 have c7 : Kt p e below T6 st0 (mkF m 26 #[vr x_, vr y_, vr y_] [(rr x_)]) := fun t k => by
  refine c6 t ?_
  show S_ p e below T6 m 22 #[vr x_, vr y_, vr y_] [(.int z_)] t
  refine XS.ifNo X6.here hx rfl (hb hby d6_22) rfl ((if0 _ _).trans (feq hz_).1) ?_
  show S_ p e below T6 m 25 #[vr x_, vr y_, vr y_] [] t
  refine XS.aloadN X6.here hx rfl (hb hby d6_25) rfl rfl ?_
  exact k
 obtain ⟨T8, X8, e8, c8⟩ := kget X6 hx hZ hown (host := "") (Or.inl (w29 hw)) Via.refl e6 F1_ c7 rfl rfl (hb hby d6_26)
 have c9 : Kt p e below T8 st0 (mkF m 30 #[vr x_, vr y_, vr y_] [(rr y_), (ii 0)]) := fun t k => by
  refine c8 t ?_
  show S_ p e below T8 m 29 #[vr x_, vr y_, vr y_] [(ii 0)] t
  refine XS.aloadN X8.here hx rfl (hb hby d6_29) rfl rfl ?_
  exact k
 obtain ⟨T10, X10, e10, c10⟩ := kget X8 hx hZ hown (host := "") (Or.inl (w29 hw)) Via.refl e8 F5_ c9 rfl rfl (hb hby d6_30)
 have c11 : Kt p e below T10 st0 (mkF m 37 #[vr x_, vr y_, vr y_] [(rr x_)]) := fun t k => by
  refine c10 t ?_
  show S_ p e below T10 m 33 #[vr x_, vr y_, vr y_] [(ii 0), (ii 0)] t
  refine XS.icmpNo X10.here hx rfl (hb hby d6_33) rfl rfl ?_
  show S_ p e below T10 m 36 #[vr x_, vr y_, vr y_] [] t
  refine XS.aloadN X10.here hx rfl (hb hby d6_36) rfl rfl ?_
  exact k
 obtain ⟨T12, X12, e12, c12⟩ := kget X10 hx hZ hown (host := "") (Or.inl (w31 hw)) Via.refl e10 F2_ c11 rfl rfl (hb hby d6_37)
 have c13 : Kt p e below T12 st0 (mkF m 41 #[vr x_, vr y_, vr y_] [(rr y_), (rr bx_)]) := fun t k => by
  refine c12 t ?_
  show S_ p e below T12 m 40 #[vr x_, vr y_, vr y_] [(rr bx_)] t
  refine XS.aloadN X12.here hx rfl (hb hby d6_40) rfl rfl ?_
  exact k
 obtain ⟨T14, X14, e14, c14⟩ := kget X12 hx hZ hown (host := "") (Or.inl (w31 hw)) Via.refl e12 F6_ c13 rfl rfl (hb hby d6_41)
 obtain ⟨_, T15, L15, X15, hQ15, c15⟩ := kstat X14 hx hZ hown (w62 hw) (w63 hw) (w64 hw) (w65 hw) (rm_l1eq_changed_unchanged l Z a0 hw [] bx_ kx_ by_ ky_ vx_ vy_ h0 n0 O0 A3_ A7_) e14 c14 hml pd_pABABrZ [(rr bx_), (rr by_)] [] 0 (hb hby d6_44) rfl rfl rfl rfl rfl rfl
 obtain ⟨rfl, N16q, K17⟩ := hQ15
 have N16 := Fr.app N0 N16q
 obtain ⟨fs, hr, hrun, hended, hW, hsame⟩ := X15.leave (v := some (ii 0)) (fun h => by rw [Bd.returns] at h; cases h)
 refine ⟨_, _, c15 _ ?_, hrun, hended, _, _, rfl, ?_, ⟨_, rfl⟩, hW, hsame.mono (by decide) (by decide)⟩
 ·show S_ p e below T15 m 47 #[vr x_, vr y_, vr y_] [(ii 0)] _
  refine yI X15.here hx rfl 47 54 rfl (hb hby d6_47) rfl rfl ?_
  show S_ p e below T15 m 54 #[vr x_, vr y_, vr y_] [] _
  refine XS.iconst X15.here hx rfl (hb hby d6_54) ?_
  show S_ p e below T15 m 55 #[vr x_, vr y_, vr y_] [(ii 0)] _
  exact retN X15 hx (t := .boolean) Bd.returns (by simp) (hb hby d6_55) hr
 ·show Q_seq_changed_unchanged Z x_ bx_ kx_ y_ by_ ky_ z_ vx_ vy_ h0 n0 _ T15.heap _
  rw [K17]
  exact ⟨rfl, N16, rfl⟩
theorem ef_l1eq_new_error (m : MethodId) (bx_ : Addr) (by_ : Addr) : entryFrame m #[(rr bx_), (rr by_)] 3 = mkF m 0 #[vr bx_, vr by_, u_] [] := by first | (simp [entryFrame, mkF, argsToLocals, Value.category]; done) | rfl
def Q_l1eq_new_error (Z : State) (bx_ : Addr) (kx_ : ClassId) (by_ : Addr) (ky_ : ClassId) (vx_ : List Value) (vy_ : List Value) (h0 : Heap) (n0 : Nat) (v : Option Value) (h : Heap) (L : List Loc) : Prop := v = some (ii 0) ∧ Fr n0 L ∧ h = h0
set_option maxRecDepth 65536 in
set_option maxHeartbeats 40000000 in
theorem rm_l1eq_new_error (l : Launch) (Z : State) (a0 : Array Value) (hw : HW Z a0) (ws : List Jvm.Cond) (bx_ : Addr) (kx_ : ClassId) (by_ : Addr) (ky_ : ClassId) (vx_ : List Value) (vy_ : List Value) (h0 : Heap) (n0 : Nat) (O0 : Old Z n0 h0) (A0_ : Arv Z h0 bx_ kx_ .byte (3 : Int32) vx_ (ii 0)) (A1_ : Arv Z h0 by_ ky_ .byte (5 : Int32) vy_ (ii 0)) :
  MFP l Z (⟨nm6, "equals", "([B[B)Z"⟩ : MethodName) jdk_43_method_13_code 3 (some .boolean) ({ frames := 0, cells := 0, slots := 0, locals := 0 } : Room) ws #[(rr bx_), (rr by_)] h0 (Q_l1eq_new_error Z bx_ kx_ by_ ky_ vx_ vy_ h0 n0) := by
 refine MetFree.of_bodySF (plainFor_of_name pn_java_lang_StringLatin1) hisR ?_
 intro p e s m args below meth c s₁ Bd hml0 hP hK
 obtain ⟨rfl, hZ, hh⟩ := hP
 have hx := Bd.exec
 have hby := Bd.bytes
 have hml : c.maxLocals = 3 := hml0
 have hown : s.vm.findClass nm6 = some m.cls := findClass_of_methodNamed Bd.named
 have hnm := (name_of_methodNamed Bd.named Bd.method).1
 have X0 : Stand p l e ({ frames := 0, cells := 0, slots := 0, locals := 0 } : Room) s m #[(rr bx_), (rr by_)] below meth c s₁ [] 0 0 := Stand.of_body Bd
 have e0 : s₁.heap = h0 := by rw [← hh, Bd.state]; rfl
 have N0 := Fr.nil n0
 have kp0 : Keep h0 h0 [] := Keep.refl _ _
 have c0 : ∀ t, S_ p e below s₁ m 0 #[vr bx_, vr by_, u_] [] t → Steps p.tables e below (s₁.setTop (entryFrame m #[(rr bx_), (rr by_)] 3)) t := fun t k => castTop (ef_l1eq_new_error m bx_ by_) k
 generalize s₁.setTop (entryFrame m #[(rr bx_), (rr by_)] 3) = st0 at c0 ⊢
 replace c0 : Kt p e below s₁ st0 (mkF m 0 #[vr bx_, vr by_, u_] []) := c0
 obtain ⟨fs, hr, hrun, hended, hW, hsame⟩ := X0.leave (v := some (ii 0)) (fun h => by rw [Bd.returns] at h; cases h)
 refine ⟨_, _, c0 _ ?_, hrun, hended, _, _, rfl, ?_, ⟨_, rfl⟩, hW, hsame.mono (by decide) (by decide)⟩
 ·show S_ p e below s₁ m 0 #[vr bx_, vr by_, u_] [] _
  refine XS.aloadN X0.here hx rfl (hb hby d5_0) rfl rfl ?_
  show S_ p e below s₁ m 1 #[vr bx_, vr by_, u_] [(rr bx_)] _
  refine ldLen X0 hx hZ e0 A0_ rfl rfl (hb hby d5_1) ?_
  show S_ p e below s₁ m 2 #[vr bx_, vr by_, u_] [(ii 3)] _
  refine XS.aloadN X0.here hx rfl (hb hby d5_2) rfl rfl ?_
  show S_ p e below s₁ m 3 #[vr bx_, vr by_, u_] [(rr by_), (ii 3)] _
  refine ldLen X0 hx hZ e0 A1_ rfl rfl (hb hby d5_3) ?_
  show S_ p e below s₁ m 4 #[vr bx_, vr by_, u_] [(ii 5), (ii 3)] _
  refine yC X0.here hx rfl 4 34 rfl (hb hby d5_4) rfl rfl ?_
  show S_ p e below s₁ m 34 #[vr bx_, vr by_, u_] [] _
  refine XS.iconst X0.here hx rfl (hb hby d5_34) ?_
  show S_ p e below s₁ m 35 #[vr bx_, vr by_, u_] [(ii 0)] _
  exact retN X0 hx (t := .boolean) Bd.returns (by simp) (hb hby d5_35) hr
 ·show Q_l1eq_new_error Z bx_ kx_ by_ ky_ vx_ vy_ h0 n0 _ s₁.heap _
  rw [e0]
  exact ⟨rfl, N0, rfl⟩
theorem ef_seq_new_error (m : MethodId) (x_ : Addr) (y_ : Addr) : entryFrame m #[(rr x_), (rr y_)] 3 = mkF m 0 #[vr x_, vr y_, u_] [] := by first | (simp [entryFrame, mkF, argsToLocals, Value.category]; done) | rfl
def Q_seq_new_error (Z : State) (x_ : Addr) (bx_ : Addr) (kx_ : ClassId) (y_ : Addr) (by_ : Addr) (ky_ : ClassId) (z_ : Int32) (vx_ : List Value) (vy_ : List Value) (h0 : Heap) (n0 : Nat) (v : Option Value) (h : Heap) (L : List Loc) : Prop := v = some (ii 0) ∧ Fr n0 L ∧ h = h0
set_option maxRecDepth 65536 in
set_option maxHeartbeats 40000000 in
theorem rm_seq_new_error (l : Launch) (Z : State) (a0 : Array Value) (hw : HW Z a0) (ws : List Jvm.Cond) (x_ : Addr) (bx_ : Addr) (kx_ : ClassId) (y_ : Addr) (by_ : Addr) (ky_ : ClassId) (z_ : Int32) (vx_ : List Value) (vy_ : List Value) (h0 : Heap) (n0 : Nat) (O0 : Old Z n0 h0) (E0_ : Exa Z h0 x_ nm1) (F1_ : Fld Z h0 x_ nm1 "coder" "B" (ii 0)) (F2_ : Fld Z h0 x_ nm1 "value" "[B" (rr bx_)) (A3_ : Arv Z h0 bx_ kx_ .byte (3 : Int32) vx_ (ii 0)) (E4_ : Exa Z h0 y_ nm1) (F5_ : Fld Z h0 y_ nm1 "coder" "B" (ii 0)) (F6_ : Fld Z h0 y_ nm1 "value" "[B" (rr by_)) (A7_ : Arv Z h0 by_ ky_ .byte (5 : Int32) vy_ (ii 0)) (ZS8_ : Sta Z Z.heap nm1 "COMPACT_STRINGS" "Z" (.int z_)) (hz_ : ¬ (z_ = (0 : Int32))) (NE10_ : x_ ≠ y_) :
  MFP l Z (⟨nm1, "equals", nm9⟩ : MethodName) jdk_42_method_66_code 3 (some .boolean) ({ frames := 1, cells := 0, slots := 0, locals := 14 } : Room) ws #[(rr x_), (rr y_)] h0 (Q_seq_new_error Z x_ bx_ kx_ y_ by_ ky_ z_ vx_ vy_ h0 n0) := by
 refine MetFree.of_bodySF (plainFor_of_name pn_java_lang_String) hisR ?_
 intro p e s m args below meth c s₁ Bd hml0 hP hK
 obtain ⟨rfl, hZ, hh⟩ := hP
 have hx := Bd.exec
 have hby := Bd.bytes
 have hml : c.maxLocals = 3 := hml0
 have hown : s.vm.findClass nm1 = some m.cls := findClass_of_methodNamed Bd.named
 have hnm := (name_of_methodNamed Bd.named Bd.method).1
 have X0 : Stand p l e ({ frames := 1, cells := 0, slots := 0, locals := 14 } : Room) s m #[(rr x_), (rr y_)] below meth c s₁ [] 0 0 := Stand.of_body Bd
 have e0 : s₁.heap = h0 := by rw [← hh, Bd.state]; rfl
 have N0 := Fr.nil n0
 have kp0 : Keep h0 h0 [] := Keep.refl _ _
 have c0 : ∀ t, S_ p e below s₁ m 0 #[vr x_, vr y_, u_] [] t → Steps p.tables e below (s₁.setTop (entryFrame m #[(rr x_), (rr y_)] 3)) t := fun t k => castTop (ef_seq_new_error m x_ y_) k
 generalize s₁.setTop (entryFrame m #[(rr x_), (rr y_)] 3) = st0 at c0 ⊢
 replace c0 : Kt p e below s₁ st0 (mkF m 0 #[vr x_, vr y_, u_] []) := c0
 have c1 : Kt p e below s₁ st0 (mkF m 8 #[vr x_, vr y_, u_] [(rr y_)]) := fun t k => by
  refine c0 t ?_
  show S_ p e below s₁ m 0 #[vr x_, vr y_, u_] [] t
  refine XS.aloadN X0.here hx rfl (hb hby d6_0) rfl rfl ?_
  show S_ p e below s₁ m 1 #[vr x_, vr y_, u_] [(rr x_)] t
  refine XS.aloadN X0.here hx rfl (hb hby d6_1) rfl rfl ?_
  show S_ p e below s₁ m 2 #[vr x_, vr y_, u_] [(rr y_), (rr x_)] t
  refine Jvm.RoadKit.acmp (g := (mkF m 2 #[vr x_, vr y_, u_] [(rr y_), (rr x_)])) X0 hx rfl rfl rfl (pc0 := 2) (pc' := 7) (same := false) rfl (hb hby d6_2) rfl (decide_eq_false fun q => NE10_ (Value.ref.inj q)) (by decide) (by decide) ?_
  show S_ p e below s₁ m 7 #[vr x_, vr y_, u_] [] t
  refine XS.aloadN X0.here hx rfl (hb hby d6_7) rfl rfl ?_
  exact k
 obtain ⟨T2, X2, e2, c2⟩ := kinst X0 hx hZ hown (w61 hw) e0 (Ins.self E4_) c1 rfl rfl (hb hby d6_8)
 have c3 : Kt p e below T2 st0 (mkF m 15 #[vr x_, vr y_, u_] [(rr y_)]) := fun t k => by
  refine c2 t ?_
  show S_ p e below T2 m 11 #[vr x_, vr y_, u_] [(ii 1)] t
  refine XS.ifNo X2.here hx rfl (hb hby d6_11) rfl rfl ?_
  show S_ p e below T2 m 14 #[vr x_, vr y_, u_] [] t
  refine XS.aloadN X2.here hx rfl (hb hby d6_14) rfl rfl ?_
  exact k
 obtain ⟨T4, X4, e4, c4⟩ := kcast X2 hx hZ hown (w61 hw) e2 (Ins.self E4_) c3 rfl rfl (hb hby d6_15)
 have c5 : Kt p e below T4 st0 (mkF m 19 #[vr x_, vr y_, vr y_] []) := fun t k => by
  refine c4 t ?_
  show S_ p e below T4 m 18 #[vr x_, vr y_, u_] [(rr y_)] t
  refine XS.astoreN X4.here hx rfl (hb hby d6_18) rfl rfl (l' := #[vr x_, vr y_, vr y_]) rfl ?_
  exact k
 obtain ⟨T6, X6, e6, c6⟩ := kgetS X4 hx hZ hown (host := "") (Or.inl (w17 hw)) Via.refl e4 (ZS8_.ext O0.2) c5 rfl (hb hby d6_19)
 have c7 : Kt p e below T6 st0 (mkF m 26 #[vr x_, vr y_, vr y_] [(rr x_)]) := fun t k => by
  refine c6 t ?_
  show S_ p e below T6 m 22 #[vr x_, vr y_, vr y_] [(.int z_)] t
  refine XS.ifNo X6.here hx rfl (hb hby d6_22) rfl ((if0 _ _).trans (feq hz_).1) ?_
  show S_ p e below T6 m 25 #[vr x_, vr y_, vr y_] [] t
  refine XS.aloadN X6.here hx rfl (hb hby d6_25) rfl rfl ?_
  exact k
 obtain ⟨T8, X8, e8, c8⟩ := kget X6 hx hZ hown (host := "") (Or.inl (w29 hw)) Via.refl e6 F1_ c7 rfl rfl (hb hby d6_26)
 have c9 : Kt p e below T8 st0 (mkF m 30 #[vr x_, vr y_, vr y_] [(rr y_), (ii 0)]) := fun t k => by
  refine c8 t ?_
  show S_ p e below T8 m 29 #[vr x_, vr y_, vr y_] [(ii 0)] t
  refine XS.aloadN X8.here hx rfl (hb hby d6_29) rfl rfl ?_
  exact k
 obtain ⟨T10, X10, e10, c10⟩ := kget X8 hx hZ hown (host := "") (Or.inl (w29 hw)) Via.refl e8 F5_ c9 rfl rfl (hb hby d6_30)
 have c11 : Kt p e below T10 st0 (mkF m 37 #[vr x_, vr y_, vr y_] [(rr x_)]) := fun t k => by
  refine c10 t ?_
  show S_ p e below T10 m 33 #[vr x_, vr y_, vr y_] [(ii 0), (ii 0)] t
  refine XS.icmpNo X10.here hx rfl (hb hby d6_33) rfl rfl ?_
  show S_ p e below T10 m 36 #[vr x_, vr y_, vr y_] [] t
  refine XS.aloadN X10.here hx rfl (hb hby d6_36) rfl rfl ?_
  exact k
 obtain ⟨T12, X12, e12, c12⟩ := kget X10 hx hZ hown (host := "") (Or.inl (w31 hw)) Via.refl e10 F2_ c11 rfl rfl (hb hby d6_37)
 have c13 : Kt p e below T12 st0 (mkF m 41 #[vr x_, vr y_, vr y_] [(rr y_), (rr bx_)]) := fun t k => by
  refine c12 t ?_
  show S_ p e below T12 m 40 #[vr x_, vr y_, vr y_] [(rr bx_)] t
  refine XS.aloadN X12.here hx rfl (hb hby d6_40) rfl rfl ?_
  exact k
 obtain ⟨T14, X14, e14, c14⟩ := kget X12 hx hZ hown (host := "") (Or.inl (w31 hw)) Via.refl e12 F6_ c13 rfl rfl (hb hby d6_41)
 obtain ⟨_, T15, L15, X15, hQ15, c15⟩ := kstat X14 hx hZ hown (w62 hw) (w63 hw) (w64 hw) (w65 hw) (rm_l1eq_new_error l Z a0 hw [] bx_ kx_ by_ ky_ vx_ vy_ h0 n0 O0 A3_ A7_) e14 c14 hml pd_pABABrZ [(rr bx_), (rr by_)] [] 0 (hb hby d6_44) rfl rfl rfl rfl rfl rfl
 obtain ⟨rfl, N16q, K17⟩ := hQ15
 have N16 := Fr.app N0 N16q
 obtain ⟨fs, hr, hrun, hended, hW, hsame⟩ := X15.leave (v := some (ii 0)) (fun h => by rw [Bd.returns] at h; cases h)
 refine ⟨_, _, c15 _ ?_, hrun, hended, _, _, rfl, ?_, ⟨_, rfl⟩, hW, hsame.mono (by decide) (by decide)⟩
 ·show S_ p e below T15 m 47 #[vr x_, vr y_, vr y_] [(ii 0)] _
  refine yI X15.here hx rfl 47 54 rfl (hb hby d6_47) rfl rfl ?_
  show S_ p e below T15 m 54 #[vr x_, vr y_, vr y_] [] _
  refine XS.iconst X15.here hx rfl (hb hby d6_54) ?_
  show S_ p e below T15 m 55 #[vr x_, vr y_, vr y_] [(ii 0)] _
  exact retN X15 hx (t := .boolean) Bd.returns (by simp) (hb hby d6_55) hr
 ·show Q_seq_new_error Z x_ bx_ kx_ y_ by_ ky_ z_ vx_ vy_ h0 n0 _ T15.heap _
  rw [K17]
  exact ⟨rfl, N16, rfl⟩
theorem ef_l1eq_changed_error (m : MethodId) (bx_ : Addr) (by_ : Addr) : entryFrame m #[(rr bx_), (rr by_)] 3 = mkF m 0 #[vr bx_, vr by_, u_] [] := by first | (simp [entryFrame, mkF, argsToLocals, Value.category]; done) | rfl
def Q_l1eq_changed_error (Z : State) (bx_ : Addr) (kx_ : ClassId) (by_ : Addr) (ky_ : ClassId) (vx_ : List Value) (vy_ : List Value) (h0 : Heap) (n0 : Nat) (v : Option Value) (h : Heap) (L : List Loc) : Prop := v = some (ii 0) ∧ Fr n0 L ∧ h = h0
set_option maxRecDepth 65536 in
set_option maxHeartbeats 40000000 in
theorem rm_l1eq_changed_error (l : Launch) (Z : State) (a0 : Array Value) (hw : HW Z a0) (ws : List Jvm.Cond) (bx_ : Addr) (kx_ : ClassId) (by_ : Addr) (ky_ : ClassId) (vx_ : List Value) (vy_ : List Value) (h0 : Heap) (n0 : Nat) (O0 : Old Z n0 h0) (A0_ : Arv Z h0 bx_ kx_ .byte (7 : Int32) vx_ (ii 0)) (A1_ : Arv Z h0 by_ ky_ .byte (5 : Int32) vy_ (ii 0)) :
  MFP l Z (⟨nm6, "equals", "([B[B)Z"⟩ : MethodName) jdk_43_method_13_code 3 (some .boolean) ({ frames := 0, cells := 0, slots := 0, locals := 0 } : Room) ws #[(rr bx_), (rr by_)] h0 (Q_l1eq_changed_error Z bx_ kx_ by_ ky_ vx_ vy_ h0 n0) := by
 refine MetFree.of_bodySF (plainFor_of_name pn_java_lang_StringLatin1) hisR ?_
 intro p e s m args below meth c s₁ Bd hml0 hP hK
 obtain ⟨rfl, hZ, hh⟩ := hP
 have hx := Bd.exec
 have hby := Bd.bytes
 have hml : c.maxLocals = 3 := hml0
 have hown : s.vm.findClass nm6 = some m.cls := findClass_of_methodNamed Bd.named
 have hnm := (name_of_methodNamed Bd.named Bd.method).1
 have X0 : Stand p l e ({ frames := 0, cells := 0, slots := 0, locals := 0 } : Room) s m #[(rr bx_), (rr by_)] below meth c s₁ [] 0 0 := Stand.of_body Bd
 have e0 : s₁.heap = h0 := by rw [← hh, Bd.state]; rfl
 have N0 := Fr.nil n0
 have kp0 : Keep h0 h0 [] := Keep.refl _ _
 have c0 : ∀ t, S_ p e below s₁ m 0 #[vr bx_, vr by_, u_] [] t → Steps p.tables e below (s₁.setTop (entryFrame m #[(rr bx_), (rr by_)] 3)) t := fun t k => castTop (ef_l1eq_changed_error m bx_ by_) k
 generalize s₁.setTop (entryFrame m #[(rr bx_), (rr by_)] 3) = st0 at c0 ⊢
 replace c0 : Kt p e below s₁ st0 (mkF m 0 #[vr bx_, vr by_, u_] []) := c0
 obtain ⟨fs, hr, hrun, hended, hW, hsame⟩ := X0.leave (v := some (ii 0)) (fun h => by rw [Bd.returns] at h; cases h)
 refine ⟨_, _, c0 _ ?_, hrun, hended, _, _, rfl, ?_, ⟨_, rfl⟩, hW, hsame.mono (by decide) (by decide)⟩
 ·show S_ p e below s₁ m 0 #[vr bx_, vr by_, u_] [] _
  refine XS.aloadN X0.here hx rfl (hb hby d5_0) rfl rfl ?_
  show S_ p e below s₁ m 1 #[vr bx_, vr by_, u_] [(rr bx_)] _
  refine ldLen X0 hx hZ e0 A0_ rfl rfl (hb hby d5_1) ?_
  show S_ p e below s₁ m 2 #[vr bx_, vr by_, u_] [(ii 7)] _
  refine XS.aloadN X0.here hx rfl (hb hby d5_2) rfl rfl ?_
  show S_ p e below s₁ m 3 #[vr bx_, vr by_, u_] [(rr by_), (ii 7)] _
  refine ldLen X0 hx hZ e0 A1_ rfl rfl (hb hby d5_3) ?_
  show S_ p e below s₁ m 4 #[vr bx_, vr by_, u_] [(ii 5), (ii 7)] _
  refine yC X0.here hx rfl 4 34 rfl (hb hby d5_4) rfl rfl ?_
  show S_ p e below s₁ m 34 #[vr bx_, vr by_, u_] [] _
  refine XS.iconst X0.here hx rfl (hb hby d5_34) ?_
  show S_ p e below s₁ m 35 #[vr bx_, vr by_, u_] [(ii 0)] _
  exact retN X0 hx (t := .boolean) Bd.returns (by simp) (hb hby d5_35) hr
 ·show Q_l1eq_changed_error Z bx_ kx_ by_ ky_ vx_ vy_ h0 n0 _ s₁.heap _
  rw [e0]
  exact ⟨rfl, N0, rfl⟩
theorem ef_seq_changed_error (m : MethodId) (x_ : Addr) (y_ : Addr) : entryFrame m #[(rr x_), (rr y_)] 3 = mkF m 0 #[vr x_, vr y_, u_] [] := by first | (simp [entryFrame, mkF, argsToLocals, Value.category]; done) | rfl
def Q_seq_changed_error (Z : State) (x_ : Addr) (bx_ : Addr) (kx_ : ClassId) (y_ : Addr) (by_ : Addr) (ky_ : ClassId) (z_ : Int32) (vx_ : List Value) (vy_ : List Value) (h0 : Heap) (n0 : Nat) (v : Option Value) (h : Heap) (L : List Loc) : Prop := v = some (ii 0) ∧ Fr n0 L ∧ h = h0
set_option maxRecDepth 65536 in
set_option maxHeartbeats 40000000 in
theorem rm_seq_changed_error (l : Launch) (Z : State) (a0 : Array Value) (hw : HW Z a0) (ws : List Jvm.Cond) (x_ : Addr) (bx_ : Addr) (kx_ : ClassId) (y_ : Addr) (by_ : Addr) (ky_ : ClassId) (z_ : Int32) (vx_ : List Value) (vy_ : List Value) (h0 : Heap) (n0 : Nat) (O0 : Old Z n0 h0) (E0_ : Exa Z h0 x_ nm1) (F1_ : Fld Z h0 x_ nm1 "coder" "B" (ii 0)) (F2_ : Fld Z h0 x_ nm1 "value" "[B" (rr bx_)) (A3_ : Arv Z h0 bx_ kx_ .byte (7 : Int32) vx_ (ii 0)) (E4_ : Exa Z h0 y_ nm1) (F5_ : Fld Z h0 y_ nm1 "coder" "B" (ii 0)) (F6_ : Fld Z h0 y_ nm1 "value" "[B" (rr by_)) (A7_ : Arv Z h0 by_ ky_ .byte (5 : Int32) vy_ (ii 0)) (ZS8_ : Sta Z Z.heap nm1 "COMPACT_STRINGS" "Z" (.int z_)) (hz_ : ¬ (z_ = (0 : Int32))) (NE10_ : x_ ≠ y_) :
  MFP l Z (⟨nm1, "equals", nm9⟩ : MethodName) jdk_42_method_66_code 3 (some .boolean) ({ frames := 1, cells := 0, slots := 0, locals := 14 } : Room) ws #[(rr x_), (rr y_)] h0 (Q_seq_changed_error Z x_ bx_ kx_ y_ by_ ky_ z_ vx_ vy_ h0 n0) := by
 refine MetFree.of_bodySF (plainFor_of_name pn_java_lang_String) hisR ?_
 intro p e s m args below meth c s₁ Bd hml0 hP hK
 obtain ⟨rfl, hZ, hh⟩ := hP
 have hx := Bd.exec
 have hby := Bd.bytes
 have hml : c.maxLocals = 3 := hml0
 have hown : s.vm.findClass nm1 = some m.cls := findClass_of_methodNamed Bd.named
 have hnm := (name_of_methodNamed Bd.named Bd.method).1
 have X0 : Stand p l e ({ frames := 1, cells := 0, slots := 0, locals := 14 } : Room) s m #[(rr x_), (rr y_)] below meth c s₁ [] 0 0 := Stand.of_body Bd
 have e0 : s₁.heap = h0 := by rw [← hh, Bd.state]; rfl
 have N0 := Fr.nil n0
 have kp0 : Keep h0 h0 [] := Keep.refl _ _
 have c0 : ∀ t, S_ p e below s₁ m 0 #[vr x_, vr y_, u_] [] t → Steps p.tables e below (s₁.setTop (entryFrame m #[(rr x_), (rr y_)] 3)) t := fun t k => castTop (ef_seq_changed_error m x_ y_) k
 generalize s₁.setTop (entryFrame m #[(rr x_), (rr y_)] 3) = st0 at c0 ⊢
 replace c0 : Kt p e below s₁ st0 (mkF m 0 #[vr x_, vr y_, u_] []) := c0
 have c1 : Kt p e below s₁ st0 (mkF m 8 #[vr x_, vr y_, u_] [(rr y_)]) := fun t k => by
  refine c0 t ?_
  show S_ p e below s₁ m 0 #[vr x_, vr y_, u_] [] t
  refine XS.aloadN X0.here hx rfl (hb hby d6_0) rfl rfl ?_
  show S_ p e below s₁ m 1 #[vr x_, vr y_, u_] [(rr x_)] t
  refine XS.aloadN X0.here hx rfl (hb hby d6_1) rfl rfl ?_
  show S_ p e below s₁ m 2 #[vr x_, vr y_, u_] [(rr y_), (rr x_)] t
  refine Jvm.RoadKit.acmp (g := (mkF m 2 #[vr x_, vr y_, u_] [(rr y_), (rr x_)])) X0 hx rfl rfl rfl (pc0 := 2) (pc' := 7) (same := false) rfl (hb hby d6_2) rfl (decide_eq_false fun q => NE10_ (Value.ref.inj q)) (by decide) (by decide) ?_
  show S_ p e below s₁ m 7 #[vr x_, vr y_, u_] [] t
  refine XS.aloadN X0.here hx rfl (hb hby d6_7) rfl rfl ?_
  exact k
 obtain ⟨T2, X2, e2, c2⟩ := kinst X0 hx hZ hown (w61 hw) e0 (Ins.self E4_) c1 rfl rfl (hb hby d6_8)
 have c3 : Kt p e below T2 st0 (mkF m 15 #[vr x_, vr y_, u_] [(rr y_)]) := fun t k => by
  refine c2 t ?_
  show S_ p e below T2 m 11 #[vr x_, vr y_, u_] [(ii 1)] t
  refine XS.ifNo X2.here hx rfl (hb hby d6_11) rfl rfl ?_
  show S_ p e below T2 m 14 #[vr x_, vr y_, u_] [] t
  refine XS.aloadN X2.here hx rfl (hb hby d6_14) rfl rfl ?_
  exact k
 obtain ⟨T4, X4, e4, c4⟩ := kcast X2 hx hZ hown (w61 hw) e2 (Ins.self E4_) c3 rfl rfl (hb hby d6_15)
 have c5 : Kt p e below T4 st0 (mkF m 19 #[vr x_, vr y_, vr y_] []) := fun t k => by
  refine c4 t ?_
  show S_ p e below T4 m 18 #[vr x_, vr y_, u_] [(rr y_)] t
  refine XS.astoreN X4.here hx rfl (hb hby d6_18) rfl rfl (l' := #[vr x_, vr y_, vr y_]) rfl ?_
  exact k
 obtain ⟨T6, X6, e6, c6⟩ := kgetS X4 hx hZ hown (host := "") (Or.inl (w17 hw)) Via.refl e4 (ZS8_.ext O0.2) c5 rfl (hb hby d6_19)
 have c7 : Kt p e below T6 st0 (mkF m 26 #[vr x_, vr y_, vr y_] [(rr x_)]) := fun t k => by
  refine c6 t ?_
  show S_ p e below T6 m 22 #[vr x_, vr y_, vr y_] [(.int z_)] t
  refine XS.ifNo X6.here hx rfl (hb hby d6_22) rfl ((if0 _ _).trans (feq hz_).1) ?_
  show S_ p e below T6 m 25 #[vr x_, vr y_, vr y_] [] t
  refine XS.aloadN X6.here hx rfl (hb hby d6_25) rfl rfl ?_
  exact k
 obtain ⟨T8, X8, e8, c8⟩ := kget X6 hx hZ hown (host := "") (Or.inl (w29 hw)) Via.refl e6 F1_ c7 rfl rfl (hb hby d6_26)
 have c9 : Kt p e below T8 st0 (mkF m 30 #[vr x_, vr y_, vr y_] [(rr y_), (ii 0)]) := fun t k => by
  refine c8 t ?_
  show S_ p e below T8 m 29 #[vr x_, vr y_, vr y_] [(ii 0)] t
  refine XS.aloadN X8.here hx rfl (hb hby d6_29) rfl rfl ?_
  exact k
 obtain ⟨T10, X10, e10, c10⟩ := kget X8 hx hZ hown (host := "") (Or.inl (w29 hw)) Via.refl e8 F5_ c9 rfl rfl (hb hby d6_30)
 have c11 : Kt p e below T10 st0 (mkF m 37 #[vr x_, vr y_, vr y_] [(rr x_)]) := fun t k => by
  refine c10 t ?_
  show S_ p e below T10 m 33 #[vr x_, vr y_, vr y_] [(ii 0), (ii 0)] t
  refine XS.icmpNo X10.here hx rfl (hb hby d6_33) rfl rfl ?_
  show S_ p e below T10 m 36 #[vr x_, vr y_, vr y_] [] t
  refine XS.aloadN X10.here hx rfl (hb hby d6_36) rfl rfl ?_
  exact k
 obtain ⟨T12, X12, e12, c12⟩ := kget X10 hx hZ hown (host := "") (Or.inl (w31 hw)) Via.refl e10 F2_ c11 rfl rfl (hb hby d6_37)
 have c13 : Kt p e below T12 st0 (mkF m 41 #[vr x_, vr y_, vr y_] [(rr y_), (rr bx_)]) := fun t k => by
  refine c12 t ?_
  show S_ p e below T12 m 40 #[vr x_, vr y_, vr y_] [(rr bx_)] t
  refine XS.aloadN X12.here hx rfl (hb hby d6_40) rfl rfl ?_
  exact k
 obtain ⟨T14, X14, e14, c14⟩ := kget X12 hx hZ hown (host := "") (Or.inl (w31 hw)) Via.refl e12 F6_ c13 rfl rfl (hb hby d6_41)
 obtain ⟨_, T15, L15, X15, hQ15, c15⟩ := kstat X14 hx hZ hown (w62 hw) (w63 hw) (w64 hw) (w65 hw) (rm_l1eq_changed_error l Z a0 hw [] bx_ kx_ by_ ky_ vx_ vy_ h0 n0 O0 A3_ A7_) e14 c14 hml pd_pABABrZ [(rr bx_), (rr by_)] [] 0 (hb hby d6_44) rfl rfl rfl rfl rfl rfl
 obtain ⟨rfl, N16q, K17⟩ := hQ15
 have N16 := Fr.app N0 N16q
 obtain ⟨fs, hr, hrun, hended, hW, hsame⟩ := X15.leave (v := some (ii 0)) (fun h => by rw [Bd.returns] at h; cases h)
 refine ⟨_, _, c15 _ ?_, hrun, hended, _, _, rfl, ?_, ⟨_, rfl⟩, hW, hsame.mono (by decide) (by decide)⟩
 ·show S_ p e below T15 m 47 #[vr x_, vr y_, vr y_] [(ii 0)] _
  refine yI X15.here hx rfl 47 54 rfl (hb hby d6_47) rfl rfl ?_
  show S_ p e below T15 m 54 #[vr x_, vr y_, vr y_] [] _
  refine XS.iconst X15.here hx rfl (hb hby d6_54) ?_
  show S_ p e below T15 m 55 #[vr x_, vr y_, vr y_] [(ii 0)] _
  exact retN X15 hx (t := .boolean) Bd.returns (by simp) (hb hby d6_55) hr
 ·show Q_seq_changed_error Z x_ bx_ kx_ y_ by_ ky_ z_ vx_ vy_ h0 n0 _ T15.heap _
  rw [K17]
  exact ⟨rfl, N16, rfl⟩
theorem ef_l1eq_unchanged_error (m : MethodId) (bx_ : Addr) (by_ : Addr) : entryFrame m #[(rr bx_), (rr by_)] 3 = mkF m 0 #[vr bx_, vr by_, u_] [] := by first | (simp [entryFrame, mkF, argsToLocals, Value.category]; done) | rfl
def Q_l1eq_unchanged_error (Z : State) (bx_ : Addr) (kx_ : ClassId) (by_ : Addr) (ky_ : ClassId) (vx_ : List Value) (vy_ : List Value) (h0 : Heap) (n0 : Nat) (v : Option Value) (h : Heap) (L : List Loc) : Prop := v = some (ii 0) ∧ Fr n0 L ∧ h = h0
set_option maxRecDepth 65536 in
set_option maxHeartbeats 40000000 in
theorem rm_l1eq_unchanged_error (l : Launch) (Z : State) (a0 : Array Value) (hw : HW Z a0) (ws : List Jvm.Cond) (bx_ : Addr) (kx_ : ClassId) (by_ : Addr) (ky_ : ClassId) (vx_ : List Value) (vy_ : List Value) (h0 : Heap) (n0 : Nat) (O0 : Old Z n0 h0) (A0_ : Arv Z h0 bx_ kx_ .byte (9 : Int32) vx_ (ii 0)) (A1_ : Arv Z h0 by_ ky_ .byte (5 : Int32) vy_ (ii 0)) :
  MFP l Z (⟨nm6, "equals", "([B[B)Z"⟩ : MethodName) jdk_43_method_13_code 3 (some .boolean) ({ frames := 0, cells := 0, slots := 0, locals := 0 } : Room) ws #[(rr bx_), (rr by_)] h0 (Q_l1eq_unchanged_error Z bx_ kx_ by_ ky_ vx_ vy_ h0 n0) := by
 refine MetFree.of_bodySF (plainFor_of_name pn_java_lang_StringLatin1) hisR ?_
 intro p e s m args below meth c s₁ Bd hml0 hP hK
 obtain ⟨rfl, hZ, hh⟩ := hP
 have hx := Bd.exec
 have hby := Bd.bytes
 have hml : c.maxLocals = 3 := hml0
 have hown : s.vm.findClass nm6 = some m.cls := findClass_of_methodNamed Bd.named
 have hnm := (name_of_methodNamed Bd.named Bd.method).1
 have X0 : Stand p l e ({ frames := 0, cells := 0, slots := 0, locals := 0 } : Room) s m #[(rr bx_), (rr by_)] below meth c s₁ [] 0 0 := Stand.of_body Bd
 have e0 : s₁.heap = h0 := by rw [← hh, Bd.state]; rfl
 have N0 := Fr.nil n0
 have kp0 : Keep h0 h0 [] := Keep.refl _ _
 have c0 : ∀ t, S_ p e below s₁ m 0 #[vr bx_, vr by_, u_] [] t → Steps p.tables e below (s₁.setTop (entryFrame m #[(rr bx_), (rr by_)] 3)) t := fun t k => castTop (ef_l1eq_unchanged_error m bx_ by_) k
 generalize s₁.setTop (entryFrame m #[(rr bx_), (rr by_)] 3) = st0 at c0 ⊢
 replace c0 : Kt p e below s₁ st0 (mkF m 0 #[vr bx_, vr by_, u_] []) := c0
 obtain ⟨fs, hr, hrun, hended, hW, hsame⟩ := X0.leave (v := some (ii 0)) (fun h => by rw [Bd.returns] at h; cases h)
 refine ⟨_, _, c0 _ ?_, hrun, hended, _, _, rfl, ?_, ⟨_, rfl⟩, hW, hsame.mono (by decide) (by decide)⟩
 ·show S_ p e below s₁ m 0 #[vr bx_, vr by_, u_] [] _
  refine XS.aloadN X0.here hx rfl (hb hby d5_0) rfl rfl ?_
  show S_ p e below s₁ m 1 #[vr bx_, vr by_, u_] [(rr bx_)] _
  refine ldLen X0 hx hZ e0 A0_ rfl rfl (hb hby d5_1) ?_
  show S_ p e below s₁ m 2 #[vr bx_, vr by_, u_] [(ii 9)] _
  refine XS.aloadN X0.here hx rfl (hb hby d5_2) rfl rfl ?_
  show S_ p e below s₁ m 3 #[vr bx_, vr by_, u_] [(rr by_), (ii 9)] _
  refine ldLen X0 hx hZ e0 A1_ rfl rfl (hb hby d5_3) ?_
  show S_ p e below s₁ m 4 #[vr bx_, vr by_, u_] [(ii 5), (ii 9)] _
  refine yC X0.here hx rfl 4 34 rfl (hb hby d5_4) rfl rfl ?_
  show S_ p e below s₁ m 34 #[vr bx_, vr by_, u_] [] _
  refine XS.iconst X0.here hx rfl (hb hby d5_34) ?_
  show S_ p e below s₁ m 35 #[vr bx_, vr by_, u_] [(ii 0)] _
  exact retN X0 hx (t := .boolean) Bd.returns (by simp) (hb hby d5_35) hr
 ·show Q_l1eq_unchanged_error Z bx_ kx_ by_ ky_ vx_ vy_ h0 n0 _ s₁.heap _
  rw [e0]
  exact ⟨rfl, N0, rfl⟩
theorem ef_seq_unchanged_error (m : MethodId) (x_ : Addr) (y_ : Addr) : entryFrame m #[(rr x_), (rr y_)] 3 = mkF m 0 #[vr x_, vr y_, u_] [] := by first | (simp [entryFrame, mkF, argsToLocals, Value.category]; done) | rfl
def Q_seq_unchanged_error (Z : State) (x_ : Addr) (bx_ : Addr) (kx_ : ClassId) (y_ : Addr) (by_ : Addr) (ky_ : ClassId) (z_ : Int32) (vx_ : List Value) (vy_ : List Value) (h0 : Heap) (n0 : Nat) (v : Option Value) (h : Heap) (L : List Loc) : Prop := v = some (ii 0) ∧ Fr n0 L ∧ h = h0
set_option maxRecDepth 65536 in
set_option maxHeartbeats 40000000 in
theorem rm_seq_unchanged_error (l : Launch) (Z : State) (a0 : Array Value) (hw : HW Z a0) (ws : List Jvm.Cond) (x_ : Addr) (bx_ : Addr) (kx_ : ClassId) (y_ : Addr) (by_ : Addr) (ky_ : ClassId) (z_ : Int32) (vx_ : List Value) (vy_ : List Value) (h0 : Heap) (n0 : Nat) (O0 : Old Z n0 h0) (E0_ : Exa Z h0 x_ nm1) (F1_ : Fld Z h0 x_ nm1 "coder" "B" (ii 0)) (F2_ : Fld Z h0 x_ nm1 "value" "[B" (rr bx_)) (A3_ : Arv Z h0 bx_ kx_ .byte (9 : Int32) vx_ (ii 0)) (E4_ : Exa Z h0 y_ nm1) (F5_ : Fld Z h0 y_ nm1 "coder" "B" (ii 0)) (F6_ : Fld Z h0 y_ nm1 "value" "[B" (rr by_)) (A7_ : Arv Z h0 by_ ky_ .byte (5 : Int32) vy_ (ii 0)) (ZS8_ : Sta Z Z.heap nm1 "COMPACT_STRINGS" "Z" (.int z_)) (hz_ : ¬ (z_ = (0 : Int32))) (NE10_ : x_ ≠ y_) :
  MFP l Z (⟨nm1, "equals", nm9⟩ : MethodName) jdk_42_method_66_code 3 (some .boolean) ({ frames := 1, cells := 0, slots := 0, locals := 14 } : Room) ws #[(rr x_), (rr y_)] h0 (Q_seq_unchanged_error Z x_ bx_ kx_ y_ by_ ky_ z_ vx_ vy_ h0 n0) := by
 refine MetFree.of_bodySF (plainFor_of_name pn_java_lang_String) hisR ?_
 intro p e s m args below meth c s₁ Bd hml0 hP hK
 obtain ⟨rfl, hZ, hh⟩ := hP
 have hx := Bd.exec
 have hby := Bd.bytes
 have hml : c.maxLocals = 3 := hml0
 have hown : s.vm.findClass nm1 = some m.cls := findClass_of_methodNamed Bd.named
 have hnm := (name_of_methodNamed Bd.named Bd.method).1
 have X0 : Stand p l e ({ frames := 1, cells := 0, slots := 0, locals := 14 } : Room) s m #[(rr x_), (rr y_)] below meth c s₁ [] 0 0 := Stand.of_body Bd
 have e0 : s₁.heap = h0 := by rw [← hh, Bd.state]; rfl
 have N0 := Fr.nil n0
 have kp0 : Keep h0 h0 [] := Keep.refl _ _
 have c0 : ∀ t, S_ p e below s₁ m 0 #[vr x_, vr y_, u_] [] t → Steps p.tables e below (s₁.setTop (entryFrame m #[(rr x_), (rr y_)] 3)) t := fun t k => castTop (ef_seq_unchanged_error m x_ y_) k
 generalize s₁.setTop (entryFrame m #[(rr x_), (rr y_)] 3) = st0 at c0 ⊢
 replace c0 : Kt p e below s₁ st0 (mkF m 0 #[vr x_, vr y_, u_] []) := c0
 have c1 : Kt p e below s₁ st0 (mkF m 8 #[vr x_, vr y_, u_] [(rr y_)]) := fun t k => by
  refine c0 t ?_
  show S_ p e below s₁ m 0 #[vr x_, vr y_, u_] [] t
  refine XS.aloadN X0.here hx rfl (hb hby d6_0) rfl rfl ?_
  show S_ p e below s₁ m 1 #[vr x_, vr y_, u_] [(rr x_)] t
  refine XS.aloadN X0.here hx rfl (hb hby d6_1) rfl rfl ?_
  show S_ p e below s₁ m 2 #[vr x_, vr y_, u_] [(rr y_), (rr x_)] t
  refine Jvm.RoadKit.acmp (g := (mkF m 2 #[vr x_, vr y_, u_] [(rr y_), (rr x_)])) X0 hx rfl rfl rfl (pc0 := 2) (pc' := 7) (same := false) rfl (hb hby d6_2) rfl (decide_eq_false fun q => NE10_ (Value.ref.inj q)) (by decide) (by decide) ?_
  show S_ p e below s₁ m 7 #[vr x_, vr y_, u_] [] t
  refine XS.aloadN X0.here hx rfl (hb hby d6_7) rfl rfl ?_
  exact k
 obtain ⟨T2, X2, e2, c2⟩ := kinst X0 hx hZ hown (w61 hw) e0 (Ins.self E4_) c1 rfl rfl (hb hby d6_8)
 have c3 : Kt p e below T2 st0 (mkF m 15 #[vr x_, vr y_, u_] [(rr y_)]) := fun t k => by
  refine c2 t ?_
  show S_ p e below T2 m 11 #[vr x_, vr y_, u_] [(ii 1)] t
  refine XS.ifNo X2.here hx rfl (hb hby d6_11) rfl rfl ?_
  show S_ p e below T2 m 14 #[vr x_, vr y_, u_] [] t
  refine XS.aloadN X2.here hx rfl (hb hby d6_14) rfl rfl ?_
  exact k
 obtain ⟨T4, X4, e4, c4⟩ := kcast X2 hx hZ hown (w61 hw) e2 (Ins.self E4_) c3 rfl rfl (hb hby d6_15)
 have c5 : Kt p e below T4 st0 (mkF m 19 #[vr x_, vr y_, vr y_] []) := fun t k => by
  refine c4 t ?_
  show S_ p e below T4 m 18 #[vr x_, vr y_, u_] [(rr y_)] t
  refine XS.astoreN X4.here hx rfl (hb hby d6_18) rfl rfl (l' := #[vr x_, vr y_, vr y_]) rfl ?_
  exact k
 obtain ⟨T6, X6, e6, c6⟩ := kgetS X4 hx hZ hown (host := "") (Or.inl (w17 hw)) Via.refl e4 (ZS8_.ext O0.2) c5 rfl (hb hby d6_19)
 have c7 : Kt p e below T6 st0 (mkF m 26 #[vr x_, vr y_, vr y_] [(rr x_)]) := fun t k => by
  refine c6 t ?_
  show S_ p e below T6 m 22 #[vr x_, vr y_, vr y_] [(.int z_)] t
  refine XS.ifNo X6.here hx rfl (hb hby d6_22) rfl ((if0 _ _).trans (feq hz_).1) ?_
  show S_ p e below T6 m 25 #[vr x_, vr y_, vr y_] [] t
  refine XS.aloadN X6.here hx rfl (hb hby d6_25) rfl rfl ?_
  exact k
 obtain ⟨T8, X8, e8, c8⟩ := kget X6 hx hZ hown (host := "") (Or.inl (w29 hw)) Via.refl e6 F1_ c7 rfl rfl (hb hby d6_26)
 have c9 : Kt p e below T8 st0 (mkF m 30 #[vr x_, vr y_, vr y_] [(rr y_), (ii 0)]) := fun t k => by
  refine c8 t ?_
  show S_ p e below T8 m 29 #[vr x_, vr y_, vr y_] [(ii 0)] t
  refine XS.aloadN X8.here hx rfl (hb hby d6_29) rfl rfl ?_
  exact k
 obtain ⟨T10, X10, e10, c10⟩ := kget X8 hx hZ hown (host := "") (Or.inl (w29 hw)) Via.refl e8 F5_ c9 rfl rfl (hb hby d6_30)
 have c11 : Kt p e below T10 st0 (mkF m 37 #[vr x_, vr y_, vr y_] [(rr x_)]) := fun t k => by
  refine c10 t ?_
  show S_ p e below T10 m 33 #[vr x_, vr y_, vr y_] [(ii 0), (ii 0)] t
  refine XS.icmpNo X10.here hx rfl (hb hby d6_33) rfl rfl ?_
  show S_ p e below T10 m 36 #[vr x_, vr y_, vr y_] [] t
  refine XS.aloadN X10.here hx rfl (hb hby d6_36) rfl rfl ?_
  exact k
 obtain ⟨T12, X12, e12, c12⟩ := kget X10 hx hZ hown (host := "") (Or.inl (w31 hw)) Via.refl e10 F2_ c11 rfl rfl (hb hby d6_37)
 have c13 : Kt p e below T12 st0 (mkF m 41 #[vr x_, vr y_, vr y_] [(rr y_), (rr bx_)]) := fun t k => by
  refine c12 t ?_
  show S_ p e below T12 m 40 #[vr x_, vr y_, vr y_] [(rr bx_)] t
  refine XS.aloadN X12.here hx rfl (hb hby d6_40) rfl rfl ?_
  exact k
 obtain ⟨T14, X14, e14, c14⟩ := kget X12 hx hZ hown (host := "") (Or.inl (w31 hw)) Via.refl e12 F6_ c13 rfl rfl (hb hby d6_41)
 obtain ⟨_, T15, L15, X15, hQ15, c15⟩ := kstat X14 hx hZ hown (w62 hw) (w63 hw) (w64 hw) (w65 hw) (rm_l1eq_unchanged_error l Z a0 hw [] bx_ kx_ by_ ky_ vx_ vy_ h0 n0 O0 A3_ A7_) e14 c14 hml pd_pABABrZ [(rr bx_), (rr by_)] [] 0 (hb hby d6_44) rfl rfl rfl rfl rfl rfl
 obtain ⟨rfl, N16q, K17⟩ := hQ15
 have N16 := Fr.app N0 N16q
 obtain ⟨fs, hr, hrun, hended, hW, hsame⟩ := X15.leave (v := some (ii 0)) (fun h => by rw [Bd.returns] at h; cases h)
 refine ⟨_, _, c15 _ ?_, hrun, hended, _, _, rfl, ?_, ⟨_, rfl⟩, hW, hsame.mono (by decide) (by decide)⟩
 ·show S_ p e below T15 m 47 #[vr x_, vr y_, vr y_] [(ii 0)] _
  refine yI X15.here hx rfl 47 54 rfl (hb hby d6_47) rfl rfl ?_
  show S_ p e below T15 m 54 #[vr x_, vr y_, vr y_] [] _
  refine XS.iconst X15.here hx rfl (hb hby d6_54) ?_
  show S_ p e below T15 m 55 #[vr x_, vr y_, vr y_] [(ii 0)] _
  exact retN X15 hx (t := .boolean) Bd.returns (by simp) (hb hby d6_55) hr
 ·show Q_seq_unchanged_error Z x_ bx_ kx_ y_ by_ ky_ z_ vx_ vy_ h0 n0 _ T15.heap _
  rw [K17]
  exact ⟨rfl, N16, rfl⟩
theorem pn_com_example_elvina_elvina_monitor_Outcome : plainName nm0 = true := by first | (simp [plainName, overriddenIn]; done) | decide +kernel
theorem d7_0 : decode prog_9_method_1_code 0 = .ok (.getstatic 16, 3) := by decide +kernel
theorem d7_3 : decode prog_9_method_1_code 3 = .ok (.invokevirtual 20, 3) := by decide +kernel
theorem d7_6 : decode prog_9_method_1_code 6 = .ok (.checkcast 21, 3) := by decide +kernel
theorem d7_9 : decode prog_9_method_1_code 9 = .ok (.areturn, 1) := by decide +kernel
theorem ef_values (m : MethodId) : entryFrame m #[] 0 = mkF m 0 #[] [] := by first | (simp [entryFrame, mkF, argsToLocals, Value.category]; done) | rfl
def Q_values (Z : State) (va_ : Addr) (ka_ : ClassId) (e0_ : Addr) (e1_ : Addr) (e2_ : Addr) (e3_ : Addr) (h0 : Heap) (n0 : Nat) (v : Option Value) (h : Heap) (L : List Loc) : Prop := ∃ (b_ : Addr), v = some (rr b_) ∧ Fr n0 L ∧ Keep h0 h [] ∧ Arv Z h b_ ka_ (.object nm0) (4 : Int32) [(rr e0_), (rr e1_), (rr e2_), (rr e3_)] .null ∧ n0 ≤ b_ ∧ h0.size ≤ b_
set_option maxRecDepth 65536 in
set_option maxHeartbeats 40000000 in
theorem rm_values (l : Launch) (Z : State) (a0 : Array Value) (hw : HW Z a0) (ws : List Jvm.Cond) (va_ : Addr) (ka_ : ClassId) (e0_ : Addr) (e1_ : Addr) (e2_ : Addr) (e3_ : Addr) (h0 : Heap) (n0 : Nat) (O0 : Old Z n0 h0) (ZS0_ : Sta Z Z.heap nm0 "$VALUES" nm3 (rr va_)) (ZA1_ : Arv Z Z.heap va_ ka_ (.object nm0) (4 : Int32) [(rr e0_), (rr e1_), (rr e2_), (rr e3_)] .null) (ZE2_ : Exa Z Z.heap va_ nm3) :
  MFP l Z (⟨nm0, "values", "()[Lcom/example/elvina/elvina/monitor/Outcome;"⟩ : MethodName) prog_9_method_1_code 0 (some (.array (.object nm0))) ({ frames := 1, cells := 1, slots := 4, locals := 14 } : Room) ws #[] h0 (Q_values Z va_ ka_ e0_ e1_ e2_ e3_ h0 n0) := by
 refine MetFree.of_bodySF (plainFor_of_name pn_com_example_elvina_elvina_monitor_Outcome) hisR ?_
 intro p e s m args below meth c s₁ Bd hml0 hP hK
 obtain ⟨rfl, hZ, hh⟩ := hP
 have hx := Bd.exec
 have hby := Bd.bytes
 have hml : c.maxLocals = 0 := hml0
 have hown : s.vm.findClass nm0 = some m.cls := findClass_of_methodNamed Bd.named
 have hnm := (name_of_methodNamed Bd.named Bd.method).1
 have X0 : Stand p l e ({ frames := 1, cells := 1, slots := 4, locals := 14 } : Room) s m #[] below meth c s₁ [] 0 0 := Stand.of_body Bd
 have e0 : s₁.heap = h0 := by rw [← hh, Bd.state]; rfl
 have N0 := Fr.nil n0
 have kp0 : Keep h0 h0 [] := Keep.refl _ _
 have c0 : ∀ t, S_ p e below s₁ m 0 #[] [] t → Steps p.tables e below (s₁.setTop (entryFrame m #[] 0)) t := fun t k => castTop (ef_values m) k
 generalize s₁.setTop (entryFrame m #[] 0) = st0 at c0 ⊢
 replace c0 : Kt p e below s₁ st0 (mkF m 0 #[] []) := c0
 obtain ⟨T1, X1, e1, c1⟩ := kgetS X0 hx hZ hown (host := "") (Or.inl (w39 hw)) Via.refl e0 (ZS0_.ext O0.2) c0 rfl (hb hby d7_0)
 obtain ⟨b2, T2, h2, z2, g2, X2, e2, E2, o3, A2, B2, c2⟩ := kclone X1 hx hZ hown (w41 hw) (w42 hw) (w46 hw) (w44 hw) (w45 hw) (w47 hw) e1 (ZA1_.ext O0.2) (ZE2_.ext O0.2) c1 rfl hml rfl rfl (hb hby d7_3) 0 4 rfl (by decide) (by decide) (by decide) (by decide) (by decide) O0
 have kp4 := kp0.ext E2
 have z5 := Nat.le_trans kp0.1 z2
 obtain ⟨T6, X6, e6, c6⟩ := kcast X2 hx hZ hown (w52 hw) e2 (Ins.self B2) c2 rfl rfl (hb hby d7_6)
 obtain ⟨fs, hr, hrun, hended, hW, hsame⟩ := X6.leave (v := some (rr b2)) (fun h => by rw [Bd.returns] at h; cases h)
 refine ⟨_, _, c6 _ ?_, hrun, hended, _, _, rfl, ?_, ⟨_, rfl⟩, hW, hsame.mono (by decide) (by decide)⟩
 ·show S_ p e below T6 m 9 #[] [(rr b2)] _
  exact retOut X6 hx Bd.returns rfl (Or.inr (Or.inr (Or.inr (Or.inr ⟨rfl, rfl, rfl⟩)))) (hb hby d7_9) hr
 ·show Q_values Z va_ ka_ e0_ e1_ e2_ e3_ h0 n0 _ T6.heap _
  rw [e6]
  exact ⟨b2, rfl, N0, kp4, A2, g2, z5⟩
theorem d8_0 : decode prog_9_method_5_code 0 = .ok (.invokestatic 39, 3) := by decide +kernel
theorem pd_prALcom_example_elvina_elvina_monitor_Outcome_ : parseMethodDescriptor "()[Lcom/example/elvina/elvina/monitor/Outcome;" = some ⟨[], some (.array (.object nm0))⟩ := by decide +kernel
theorem d8_3 : decode prog_9_method_5_code 3 = .ok (.astore_n 1, 1) := by decide +kernel
theorem d8_4 : decode prog_9_method_5_code 4 = .ok (.aload_n 1, 1) := by decide +kernel
theorem d8_5 : decode prog_9_method_5_code 5 = .ok (.arraylength, 1) := by decide +kernel
theorem d8_6 : decode prog_9_method_5_code 6 = .ok (.istore_n 2, 1) := by decide +kernel
theorem d8_7 : decode prog_9_method_5_code 7 = .ok (.iconst 0, 1) := by decide +kernel
theorem d8_8 : decode prog_9_method_5_code 8 = .ok (.istore_n 3, 1) := by decide +kernel
theorem d8_9 : decode prog_9_method_5_code 9 = .ok (.iload_n 3, 1) := by decide +kernel
theorem d8_10 : decode prog_9_method_5_code 10 = .ok (.iload_n 2, 1) := by decide +kernel
theorem d8_11 : decode prog_9_method_5_code 11 = .ok (.if_icmp .ge 29, 3) := by decide +kernel
theorem d8_14 : decode prog_9_method_5_code 14 = .ok (.aload_n 1, 1) := by decide +kernel
theorem d8_15 : decode prog_9_method_5_code 15 = .ok (.iload_n 3, 1) := by decide +kernel
theorem d8_16 : decode prog_9_method_5_code 16 = .ok (.aaload, 1) := by decide +kernel
theorem d8_17 : decode prog_9_method_5_code 17 = .ok (.astore 4, 2) := by decide +kernel
theorem d8_19 : decode prog_9_method_5_code 19 = .ok (.aload 4, 2) := by decide +kernel
theorem d8_21 : decode prog_9_method_5_code 21 = .ok (.getfield 35, 3) := by decide +kernel
theorem d8_24 : decode prog_9_method_5_code 24 = .ok (.aload_n 0, 1) := by decide +kernel
theorem d8_25 : decode prog_9_method_5_code 25 = .ok (.invokevirtual 43, 3) := by decide +kernel
theorem pd_pLjava_lang_Object_rZ : parseMethodDescriptor nm9 = some ⟨[(.object "java/lang/Object")], some .boolean⟩ := by decide +kernel
theorem d8_28 : decode prog_9_method_5_code 28 = .ok (.ifCond .eq 6, 3) := by decide +kernel
theorem d8_31 : decode prog_9_method_5_code 31 = .ok (.aload 4, 2) := by decide +kernel
theorem d8_33 : decode prog_9_method_5_code 33 = .ok (.areturn, 1) := by decide +kernel
theorem ef_ofLabel_new (m : MethodId) (s_ : Addr) : entryFrame m #[(rr s_)] 5 = mkF m 0 #[vr s_, u_, u_, u_, u_] [] := by first | (simp [entryFrame, mkF, argsToLocals, Value.category]; done) | rfl
def Q_ofLabel_new (Z : State) (s_ : Addr) (bs_ : Addr) (ks_ : ClassId) (sa101_ : Addr) (sa105_ : Addr) (sa110_ : Addr) (sa114_ : Addr) (sa118_ : Addr) (sa122_ : Addr) (sa128_ : Addr) (sa132_ : Addr) (sa138_ : Addr) (sa142_ : Addr) (sa148_ : Addr) (sa152_ : Addr) (sa158_ : Addr) (si162_ : Int32) (sv167_ : Value) (sk171_ : ClassId) (sk174_ : ClassId) (sk177_ : ClassId) (sk180_ : ClassId) (sk183_ : ClassId) (h0 : Heap) (n0 : Nat) (v : Option Value) (h : Heap) (L : List Loc) : Prop := v = some (rr sa101_) ∧ Fr n0 L ∧ Keep h0 h []
set_option maxRecDepth 65536 in
set_option maxHeartbeats 40000000 in
theorem rm_ofLabel_new (l : Launch) (Z : State) (a0 : Array Value) (hw : HW Z a0) (ws : List Jvm.Cond) (s_ : Addr) (bs_ : Addr) (ks_ : ClassId) (sa101_ : Addr) (sa105_ : Addr) (sa110_ : Addr) (sa114_ : Addr) (sa118_ : Addr) (sa122_ : Addr) (sa128_ : Addr) (sa132_ : Addr) (sa138_ : Addr) (sa142_ : Addr) (sa148_ : Addr) (sa152_ : Addr) (sa158_ : Addr) (si162_ : Int32) (sv167_ : Value) (sk171_ : ClassId) (sk174_ : ClassId) (sk177_ : ClassId) (sk180_ : ClassId) (sk183_ : ClassId) (h0 : Heap) (n0 : Nat) (O0 : Old Z n0 h0) (E0_ : Exa Z h0 s_ nm1) (F1_ : Fld Z h0 s_ nm1 "coder" "B" (ii 0)) (F2_ : Fld Z h0 s_ nm1 "value" "[B" (rr bs_)) (A3_ : Arv Z h0 bs_ ks_ .byte (3 : Int32) [(ii 110), (ii 101), (ii 119)] (ii 0)) (G4_ : n0 ≤ s_) (ZS5_ : Sta Z Z.heap nm0 "NEW" nm2 (rr sa101_)) (ZE6_ : Exa Z Z.heap sa101_ nm0) (ZS7_ : Sta Z Z.heap nm0 "$VALUES" nm3 (rr sa105_)) (ZE8_ : Exa Z Z.heap sa105_ nm3) (ZS9_ : Sta Z Z.heap nm0 "CHANGED" nm2 (rr sa110_)) (ZE10_ : Exa Z Z.heap sa110_ nm0) (ZS11_ : Sta Z Z.heap nm0 "UNCHANGED" nm2 (rr sa114_)) (ZE12_ : Exa Z Z.heap sa114_ nm0) (ZS13_ : Sta Z Z.heap nm0 "ERROR" nm2 (rr sa118_)) (ZE14_ : Exa Z Z.heap sa118_ nm0) (ZF15_ : Fld Z Z.heap sa101_ nm0 "label" nm7 (rr sa122_)) (ZE16_ : Exa Z Z.heap sa122_ nm1) (ZF17_ : Fld Z Z.heap sa122_ nm1 "coder" "B" (ii 0)) (ZF18_ : Fld Z Z.heap sa122_ nm1 "value" "[B" (rr sa128_)) (ZF19_ : Fld Z Z.heap sa110_ nm0 "label" nm7 (rr sa132_)) (ZE20_ : Exa Z Z.heap sa132_ nm1) (ZF21_ : Fld Z Z.heap sa132_ nm1 "coder" "B" (ii 0)) (ZF22_ : Fld Z Z.heap sa132_ nm1 "value" "[B" (rr sa138_)) (ZF23_ : Fld Z Z.heap sa114_ nm0 "label" nm7 (rr sa142_)) (ZE24_ : Exa Z Z.heap sa142_ nm1) (ZF25_ : Fld Z Z.heap sa142_ nm1 "coder" "B" (ii 0)) (ZF26_ : Fld Z Z.heap sa142_ nm1 "value" "[B" (rr sa148_)) (ZF27_ : Fld Z Z.heap sa118_ nm0 "label" nm7 (rr sa152_)) (ZE28_ : Exa Z Z.heap sa152_ nm1) (ZF29_ : Fld Z Z.heap sa152_ nm1 "coder" "B" (ii 0)) (ZF30_ : Fld Z Z.heap sa152_ nm1 "value" "[B" (rr sa158_)) (ZS31_ : Sta Z Z.heap nm1 "COMPACT_STRINGS" "Z" (.int si162_)) (sn165_ : ¬ (si162_ = (0 : Int32))) (sv167_r : sv167_.isRef = true) (ZS34_ : Sta Z Z.heap "jdk/internal/util/Preconditions" "SIOOBE_FORMATTER" "Ljava/util/function/BiFunction;" sv167_) (ZA35_ : Arv Z Z.heap sa105_ sk171_ (.object nm0) (4 : Int32) [(rr sa101_), (rr sa110_), (rr sa114_), (rr sa118_)] .null) (ZA36_ : Arv Z Z.heap sa128_ sk174_ .byte (3 : Int32) [(ii 110), (ii 101), (ii 119)] (ii 0)) (ZA37_ : Arv Z Z.heap sa138_ sk177_ .byte (7 : Int32) [(ii 99), (ii 104), (ii 97), (ii 110), (ii 103), (ii 101), (ii 100)] (ii 0)) (ZA38_ : Arv Z Z.heap sa148_ sk180_ .byte (9 : Int32) [(ii 117), (ii 110), (ii 99), (ii 104), (ii 97), (ii 110), (ii 103), (ii 101), (ii 100)] (ii 0)) (ZA39_ : Arv Z Z.heap sa158_ sk183_ .byte (5 : Int32) [(ii 101), (ii 114), (ii 114), (ii 111), (ii 114)] (ii 0)) :
  MFP l Z (⟨nm0, "ofLabel", nm8⟩ : MethodName) prog_9_method_5_code 5 (some (.object nm0)) ({ frames := 2, cells := 1, slots := 4, locals := 28 } : Room) ws #[(rr s_)] h0 (Q_ofLabel_new Z s_ bs_ ks_ sa101_ sa105_ sa110_ sa114_ sa118_ sa122_ sa128_ sa132_ sa138_ sa142_ sa148_ sa152_ sa158_ si162_ sv167_ sk171_ sk174_ sk177_ sk180_ sk183_ h0 n0) := by
 refine MetFree.of_bodySF (plainFor_of_name pn_com_example_elvina_elvina_monitor_Outcome) hisR ?_
 intro p e s m args below meth c s₁ Bd hml0 hP hK
 obtain ⟨rfl, hZ, hh⟩ := hP
 have hx := Bd.exec
 have hby := Bd.bytes
 have hml : c.maxLocals = 5 := hml0
 have hown : s.vm.findClass nm0 = some m.cls := findClass_of_methodNamed Bd.named
 have hnm := (name_of_methodNamed Bd.named Bd.method).1
 have X0 : Stand p l e ({ frames := 2, cells := 1, slots := 4, locals := 28 } : Room) s m #[(rr s_)] below meth c s₁ [] 0 0 := Stand.of_body Bd
 have e0 : s₁.heap = h0 := by rw [← hh, Bd.state]; rfl
 have N0 := Fr.nil n0
 have kp0 : Keep h0 h0 [] := Keep.refl _ _
 have c0 : ∀ t, S_ p e below s₁ m 0 #[vr s_, u_, u_, u_, u_] [] t → Steps p.tables e below (s₁.setTop (entryFrame m #[(rr s_)] 5)) t := fun t k => castTop (ef_ofLabel_new m s_) k
 generalize s₁.setTop (entryFrame m #[(rr s_)] 5) = st0 at c0 ⊢
 replace c0 : Kt p e below s₁ st0 (mkF m 0 #[vr s_, u_, u_, u_, u_] []) := c0
 obtain ⟨_, T1, L1, X1, hQ1, c1⟩ := kstat X0 hx hZ hown (w36 hw) (w37 hw) (w1 hw) (w38 hw) (rm_values l Z a0 hw [] sa105_ sk171_ sa101_ sa110_ sa114_ sa118_ h0 n0 O0 ZS7_ ZA35_ ZE8_) e0 c0 hml pd_prALcom_example_elvina_elvina_monitor_Outcome_ [] [] 0 (hb hby d8_0) rfl rfl rfl rfl rfl rfl
 obtain ⟨b2, rfl, N3q, K4, p5, p6, p7⟩ := hQ1
 have N3 := Fr.app N0 N3q
 have o8 := O0.keep K4 all0
 have kp9 := kp0.trans K4 all0
 have z10 := Nat.le_trans kp0.1 p7
 have g11 := Nat.le_trans (Nat.le_trans (Nat.le_of_eq O0.1.symm) O0.2.1) p7
 have c12 : Kt p e below T1 st0 (mkF m 21 #[vr s_, vr b2, vi 4, vi 0, vr sa101_] [(rr sa101_)]) := fun t k => by
  refine c1 t ?_
  show S_ p e below T1 m 3 #[vr s_, u_, u_, u_, u_] [(rr b2)] t
  refine XS.astoreN X1.here hx rfl (hb hby d8_3) rfl rfl (l' := #[vr s_, vr b2, u_, u_, u_]) rfl ?_
  show S_ p e below T1 m 4 #[vr s_, vr b2, u_, u_, u_] [] t
  refine XS.aloadN X1.here hx rfl (hb hby d8_4) rfl rfl ?_
  show S_ p e below T1 m 5 #[vr s_, vr b2, u_, u_, u_] [(rr b2)] t
  refine ldLen X1 hx hZ rfl p5 rfl rfl (hb hby d8_5) ?_
  show S_ p e below T1 m 6 #[vr s_, vr b2, u_, u_, u_] [(ii 4)] t
  refine XS.istoreN X1.here hx rfl (hb hby d8_6) rfl (l' := #[vr s_, vr b2, vi 4, u_, u_]) rfl ?_
  show S_ p e below T1 m 7 #[vr s_, vr b2, vi 4, u_, u_] [] t
  refine XS.iconst X1.here hx rfl (hb hby d8_7) ?_
  show S_ p e below T1 m 8 #[vr s_, vr b2, vi 4, u_, u_] [(ii 0)] t
  refine XS.istoreN X1.here hx rfl (hb hby d8_8) rfl (l' := #[vr s_, vr b2, vi 4, vi 0, u_]) rfl ?_
  show S_ p e below T1 m 9 #[vr s_, vr b2, vi 4, vi 0, u_] [] t
  refine XS.iloadN X1.here hx rfl (hb hby d8_9) rfl ?_
  show S_ p e below T1 m 10 #[vr s_, vr b2, vi 4, vi 0, u_] [(ii 0)] t
  refine XS.iloadN X1.here hx rfl (hb hby d8_10) rfl ?_
  show S_ p e below T1 m 11 #[vr s_, vr b2, vi 4, vi 0, u_] [(ii 4), (ii 0)] t
  refine XS.icmpNo X1.here hx rfl (hb hby d8_11) rfl rfl ?_
  show S_ p e below T1 m 14 #[vr s_, vr b2, vi 4, vi 0, u_] [] t
  refine XS.aloadN X1.here hx rfl (hb hby d8_14) rfl rfl ?_
  show S_ p e below T1 m 15 #[vr s_, vr b2, vi 4, vi 0, u_] [(rr b2)] t
  refine XS.iloadN X1.here hx rfl (hb hby d8_15) rfl ?_
  show S_ p e below T1 m 16 #[vr s_, vr b2, vi 4, vi 0, u_] [(ii 0), (rr b2)] t
  refine ldA X1 hx hZ rfl p5 (v := (rr sa101_)) (by decide) (by decide) rfl rfl rfl (hb hby d8_16) ?_
  show S_ p e below T1 m 17 #[vr s_, vr b2, vi 4, vi 0, u_] [(rr sa101_)] t
  refine XS.astore X1.here hx rfl (hb hby d8_17) rfl rfl (l' := #[vr s_, vr b2, vi 4, vi 0, vr sa101_]) rfl ?_
  show S_ p e below T1 m 19 #[vr s_, vr b2, vi 4, vi 0, vr sa101_] [] t
  refine XS.aload X1.here hx rfl (hb hby d8_19) rfl rfl ?_
  exact k
 obtain ⟨T13, X13, e13, c13⟩ := kget X1 hx hZ hown (host := "") (Or.inl (w54 hw)) Via.refl rfl (ZF15_.ext o8.2) c12 rfl rfl (hb hby d8_21)
 have q14 := Nat.ne_of_lt (Nat.lt_of_lt_of_le ZE16_.lt (Nat.le_trans (Nat.le_of_eq O0.1) G4_))
 have c15 : Kt p e below T13 st0 (mkF m 25 #[vr s_, vr b2, vi 4, vi 0, vr sa101_] [(rr s_), (rr sa122_)]) := fun t k => by
  refine c13 t ?_
  show S_ p e below T13 m 24 #[vr s_, vr b2, vi 4, vi 0, vr sa101_] [(rr sa122_)] t
  refine XS.aloadN X13.here hx rfl (hb hby d8_24) rfl rfl ?_
  exact k
 obtain ⟨_, T16, L16, X16, hQ16, c16⟩ := kvirt X13 hx hZ hown (w56 hw) (w57 hw) (w59 hw) (w58 hw) (w60 hw) (w6 hw) (rm_seq_new l Z a0 hw [] sa122_ sa128_ sk174_ s_ bs_ ks_ si162_ T1.heap n0 o8 (ZE16_.ext o8.2) (ZF17_.ext o8.2) (ZF18_.ext o8.2) (ZA36_.ext o8.2) (E0_.keep K4) (F1_.keep K4 nin0) (F2_.keep K4 nin0) (A3_.keep K4 nin0) ZS31_ sn165_ q14) e13 (ZE16_.ext o8.2) c15 hml pd_pLjava_lang_Object_rZ [(rr s_)] [] 0 (hb hby d8_25) rfl rfl rfl rfl rfl rfl
 obtain ⟨rfl, N17q, K18⟩ := hQ16
 have N17 := Fr.app N3 N17q
 obtain ⟨fs, hr, hrun, hended, hW, hsame⟩ := X16.leave (v := some (rr sa101_)) (fun h => by rw [Bd.returns] at h; cases h)
 refine ⟨_, _, c16 _ ?_, hrun, hended, _, _, rfl, ?_, ⟨_, rfl⟩, hW, hsame.mono (by decide) (by decide)⟩
 ·show S_ p e below T16 m 28 #[vr s_, vr b2, vi 4, vi 0, vr sa101_] [(ii 1)] _
  refine XS.ifNo X16.here hx rfl (hb hby d8_28) rfl rfl ?_
  show S_ p e below T16 m 31 #[vr s_, vr b2, vi 4, vi 0, vr sa101_] [] _
  refine XS.aload X16.here hx rfl (hb hby d8_31) rfl rfl ?_
  show S_ p e below T16 m 33 #[vr s_, vr b2, vi 4, vi 0, vr sa101_] [(rr sa101_)] _
  exact retOut X16 hx Bd.returns rfl (Or.inr (Or.inr (Or.inr (Or.inr ⟨rfl, rfl, rfl⟩)))) (hb hby d8_33) hr
 ·show Q_ofLabel_new Z s_ bs_ ks_ sa101_ sa105_ sa110_ sa114_ sa118_ sa122_ sa128_ sa132_ sa138_ sa142_ sa148_ sa152_ sa158_ si162_ sv167_ sk171_ sk174_ sk177_ sk180_ sk183_ h0 n0 _ T16.heap _
  rw [K18]
  exact ⟨rfl, N17, kp9⟩
theorem d8_34 : decode prog_9_method_5_code 34 = .ok (.iinc 3 1, 3) := by decide +kernel
theorem d8_37 : decode prog_9_method_5_code 37 = .ok (.goto (-28), 3) := by decide +kernel
theorem ef_ofLabel_changed (m : MethodId) (s_ : Addr) : entryFrame m #[(rr s_)] 5 = mkF m 0 #[vr s_, u_, u_, u_, u_] [] := by first | (simp [entryFrame, mkF, argsToLocals, Value.category]; done) | rfl
def Q_ofLabel_changed (Z : State) (s_ : Addr) (bs_ : Addr) (ks_ : ClassId) (sa101_ : Addr) (sa105_ : Addr) (sa110_ : Addr) (sa114_ : Addr) (sa118_ : Addr) (sa122_ : Addr) (sa128_ : Addr) (sa132_ : Addr) (sa138_ : Addr) (sa142_ : Addr) (sa148_ : Addr) (sa152_ : Addr) (sa158_ : Addr) (si162_ : Int32) (sv167_ : Value) (sk171_ : ClassId) (sk174_ : ClassId) (sk177_ : ClassId) (sk180_ : ClassId) (sk183_ : ClassId) (h0 : Heap) (n0 : Nat) (v : Option Value) (h : Heap) (L : List Loc) : Prop := v = some (rr sa110_) ∧ Fr n0 L ∧ Keep h0 h []
set_option maxRecDepth 65536 in
set_option maxHeartbeats 40000000 in
theorem rm_ofLabel_changed (l : Launch) (Z : State) (a0 : Array Value) (hw : HW Z a0) (ws : List Jvm.Cond) (s_ : Addr) (bs_ : Addr) (ks_ : ClassId) (sa101_ : Addr) (sa105_ : Addr) (sa110_ : Addr) (sa114_ : Addr) (sa118_ : Addr) (sa122_ : Addr) (sa128_ : Addr) (sa132_ : Addr) (sa138_ : Addr) (sa142_ : Addr) (sa148_ : Addr) (sa152_ : Addr) (sa158_ : Addr) (si162_ : Int32) (sv167_ : Value) (sk171_ : ClassId) (sk174_ : ClassId) (sk177_ : ClassId) (sk180_ : ClassId) (sk183_ : ClassId) (h0 : Heap) (n0 : Nat) (O0 : Old Z n0 h0) (E0_ : Exa Z h0 s_ nm1) (F1_ : Fld Z h0 s_ nm1 "coder" "B" (ii 0)) (F2_ : Fld Z h0 s_ nm1 "value" "[B" (rr bs_)) (A3_ : Arv Z h0 bs_ ks_ .byte (7 : Int32) [(ii 99), (ii 104), (ii 97), (ii 110), (ii 103), (ii 101), (ii 100)] (ii 0)) (G4_ : n0 ≤ s_) (ZS5_ : Sta Z Z.heap nm0 "NEW" nm2 (rr sa101_)) (ZE6_ : Exa Z Z.heap sa101_ nm0) (ZS7_ : Sta Z Z.heap nm0 "$VALUES" nm3 (rr sa105_)) (ZE8_ : Exa Z Z.heap sa105_ nm3) (ZS9_ : Sta Z Z.heap nm0 "CHANGED" nm2 (rr sa110_)) (ZE10_ : Exa Z Z.heap sa110_ nm0) (ZS11_ : Sta Z Z.heap nm0 "UNCHANGED" nm2 (rr sa114_)) (ZE12_ : Exa Z Z.heap sa114_ nm0) (ZS13_ : Sta Z Z.heap nm0 "ERROR" nm2 (rr sa118_)) (ZE14_ : Exa Z Z.heap sa118_ nm0) (ZF15_ : Fld Z Z.heap sa101_ nm0 "label" nm7 (rr sa122_)) (ZE16_ : Exa Z Z.heap sa122_ nm1) (ZF17_ : Fld Z Z.heap sa122_ nm1 "coder" "B" (ii 0)) (ZF18_ : Fld Z Z.heap sa122_ nm1 "value" "[B" (rr sa128_)) (ZF19_ : Fld Z Z.heap sa110_ nm0 "label" nm7 (rr sa132_)) (ZE20_ : Exa Z Z.heap sa132_ nm1) (ZF21_ : Fld Z Z.heap sa132_ nm1 "coder" "B" (ii 0)) (ZF22_ : Fld Z Z.heap sa132_ nm1 "value" "[B" (rr sa138_)) (ZF23_ : Fld Z Z.heap sa114_ nm0 "label" nm7 (rr sa142_)) (ZE24_ : Exa Z Z.heap sa142_ nm1) (ZF25_ : Fld Z Z.heap sa142_ nm1 "coder" "B" (ii 0)) (ZF26_ : Fld Z Z.heap sa142_ nm1 "value" "[B" (rr sa148_)) (ZF27_ : Fld Z Z.heap sa118_ nm0 "label" nm7 (rr sa152_)) (ZE28_ : Exa Z Z.heap sa152_ nm1) (ZF29_ : Fld Z Z.heap sa152_ nm1 "coder" "B" (ii 0)) (ZF30_ : Fld Z Z.heap sa152_ nm1 "value" "[B" (rr sa158_)) (ZS31_ : Sta Z Z.heap nm1 "COMPACT_STRINGS" "Z" (.int si162_)) (sn165_ : ¬ (si162_ = (0 : Int32))) (sv167_r : sv167_.isRef = true) (ZS34_ : Sta Z Z.heap "jdk/internal/util/Preconditions" "SIOOBE_FORMATTER" "Ljava/util/function/BiFunction;" sv167_) (ZA35_ : Arv Z Z.heap sa105_ sk171_ (.object nm0) (4 : Int32) [(rr sa101_), (rr sa110_), (rr sa114_), (rr sa118_)] .null) (ZA36_ : Arv Z Z.heap sa128_ sk174_ .byte (3 : Int32) [(ii 110), (ii 101), (ii 119)] (ii 0)) (ZA37_ : Arv Z Z.heap sa138_ sk177_ .byte (7 : Int32) [(ii 99), (ii 104), (ii 97), (ii 110), (ii 103), (ii 101), (ii 100)] (ii 0)) (ZA38_ : Arv Z Z.heap sa148_ sk180_ .byte (9 : Int32) [(ii 117), (ii 110), (ii 99), (ii 104), (ii 97), (ii 110), (ii 103), (ii 101), (ii 100)] (ii 0)) (ZA39_ : Arv Z Z.heap sa158_ sk183_ .byte (5 : Int32) [(ii 101), (ii 114), (ii 114), (ii 111), (ii 114)] (ii 0)) :
  MFP l Z (⟨nm0, "ofLabel", nm8⟩ : MethodName) prog_9_method_5_code 5 (some (.object nm0)) ({ frames := 2, cells := 1, slots := 4, locals := 28 } : Room) ws #[(rr s_)] h0 (Q_ofLabel_changed Z s_ bs_ ks_ sa101_ sa105_ sa110_ sa114_ sa118_ sa122_ sa128_ sa132_ sa138_ sa142_ sa148_ sa152_ sa158_ si162_ sv167_ sk171_ sk174_ sk177_ sk180_ sk183_ h0 n0) := by
 refine MetFree.of_bodySF (plainFor_of_name pn_com_example_elvina_elvina_monitor_Outcome) hisR ?_
 intro p e s m args below meth c s₁ Bd hml0 hP hK
 obtain ⟨rfl, hZ, hh⟩ := hP
 have hx := Bd.exec
 have hby := Bd.bytes
 have hml : c.maxLocals = 5 := hml0
 have hown : s.vm.findClass nm0 = some m.cls := findClass_of_methodNamed Bd.named
 have hnm := (name_of_methodNamed Bd.named Bd.method).1
 have X0 : Stand p l e ({ frames := 2, cells := 1, slots := 4, locals := 28 } : Room) s m #[(rr s_)] below meth c s₁ [] 0 0 := Stand.of_body Bd
 have e0 : s₁.heap = h0 := by rw [← hh, Bd.state]; rfl
 have N0 := Fr.nil n0
 have kp0 : Keep h0 h0 [] := Keep.refl _ _
 have c0 : ∀ t, S_ p e below s₁ m 0 #[vr s_, u_, u_, u_, u_] [] t → Steps p.tables e below (s₁.setTop (entryFrame m #[(rr s_)] 5)) t := fun t k => castTop (ef_ofLabel_changed m s_) k
 generalize s₁.setTop (entryFrame m #[(rr s_)] 5) = st0 at c0 ⊢
 replace c0 : Kt p e below s₁ st0 (mkF m 0 #[vr s_, u_, u_, u_, u_] []) := c0
 obtain ⟨_, T1, L1, X1, hQ1, c1⟩ := kstat X0 hx hZ hown (w36 hw) (w37 hw) (w1 hw) (w38 hw) (rm_values l Z a0 hw [] sa105_ sk171_ sa101_ sa110_ sa114_ sa118_ h0 n0 O0 ZS7_ ZA35_ ZE8_) e0 c0 hml pd_prALcom_example_elvina_elvina_monitor_Outcome_ [] [] 0 (hb hby d8_0) rfl rfl rfl rfl rfl rfl
 obtain ⟨b2, rfl, N3q, K4, p5, p6, p7⟩ := hQ1
 have N3 := Fr.app N0 N3q
 have o8 := O0.keep K4 all0
 have kp9 := kp0.trans K4 all0
 have z10 := Nat.le_trans kp0.1 p7
 have g11 := Nat.le_trans (Nat.le_trans (Nat.le_of_eq O0.1.symm) O0.2.1) p7
 have c12 : Kt p e below T1 st0 (mkF m 21 #[vr s_, vr b2, vi 4, vi 0, vr sa101_] [(rr sa101_)]) := fun t k => by
  refine c1 t ?_
  show S_ p e below T1 m 3 #[vr s_, u_, u_, u_, u_] [(rr b2)] t
  refine XS.astoreN X1.here hx rfl (hb hby d8_3) rfl rfl (l' := #[vr s_, vr b2, u_, u_, u_]) rfl ?_
  show S_ p e below T1 m 4 #[vr s_, vr b2, u_, u_, u_] [] t
  refine XS.aloadN X1.here hx rfl (hb hby d8_4) rfl rfl ?_
  show S_ p e below T1 m 5 #[vr s_, vr b2, u_, u_, u_] [(rr b2)] t
  refine ldLen X1 hx hZ rfl p5 rfl rfl (hb hby d8_5) ?_
  show S_ p e below T1 m 6 #[vr s_, vr b2, u_, u_, u_] [(ii 4)] t
  refine XS.istoreN X1.here hx rfl (hb hby d8_6) rfl (l' := #[vr s_, vr b2, vi 4, u_, u_]) rfl ?_
  show S_ p e below T1 m 7 #[vr s_, vr b2, vi 4, u_, u_] [] t
  refine XS.iconst X1.here hx rfl (hb hby d8_7) ?_
  show S_ p e below T1 m 8 #[vr s_, vr b2, vi 4, u_, u_] [(ii 0)] t
  refine XS.istoreN X1.here hx rfl (hb hby d8_8) rfl (l' := #[vr s_, vr b2, vi 4, vi 0, u_]) rfl ?_
  show S_ p e below T1 m 9 #[vr s_, vr b2, vi 4, vi 0, u_] [] t
  refine XS.iloadN X1.here hx rfl (hb hby d8_9) rfl ?_
  show S_ p e below T1 m 10 #[vr s_, vr b2, vi 4, vi 0, u_] [(ii 0)] t
  refine XS.iloadN X1.here hx rfl (hb hby d8_10) rfl ?_
  show S_ p e below T1 m 11 #[vr s_, vr b2, vi 4, vi 0, u_] [(ii 4), (ii 0)] t
  refine XS.icmpNo X1.here hx rfl (hb hby d8_11) rfl rfl ?_
  show S_ p e below T1 m 14 #[vr s_, vr b2, vi 4, vi 0, u_] [] t
  refine XS.aloadN X1.here hx rfl (hb hby d8_14) rfl rfl ?_
  show S_ p e below T1 m 15 #[vr s_, vr b2, vi 4, vi 0, u_] [(rr b2)] t
  refine XS.iloadN X1.here hx rfl (hb hby d8_15) rfl ?_
  show S_ p e below T1 m 16 #[vr s_, vr b2, vi 4, vi 0, u_] [(ii 0), (rr b2)] t
  refine ldA X1 hx hZ rfl p5 (v := (rr sa101_)) (by decide) (by decide) rfl rfl rfl (hb hby d8_16) ?_
  show S_ p e below T1 m 17 #[vr s_, vr b2, vi 4, vi 0, u_] [(rr sa101_)] t
  refine XS.astore X1.here hx rfl (hb hby d8_17) rfl rfl (l' := #[vr s_, vr b2, vi 4, vi 0, vr sa101_]) rfl ?_
  show S_ p e below T1 m 19 #[vr s_, vr b2, vi 4, vi 0, vr sa101_] [] t
  refine XS.aload X1.here hx rfl (hb hby d8_19) rfl rfl ?_
  exact k
 obtain ⟨T13, X13, e13, c13⟩ := kget X1 hx hZ hown (host := "") (Or.inl (w54 hw)) Via.refl rfl (ZF15_.ext o8.2) c12 rfl rfl (hb hby d8_21)
 have q14 := Nat.ne_of_lt (Nat.lt_of_lt_of_le ZE16_.lt (Nat.le_trans (Nat.le_of_eq O0.1) G4_))
 have c15 : Kt p e below T13 st0 (mkF m 25 #[vr s_, vr b2, vi 4, vi 0, vr sa101_] [(rr s_), (rr sa122_)]) := fun t k => by
  refine c13 t ?_
  show S_ p e below T13 m 24 #[vr s_, vr b2, vi 4, vi 0, vr sa101_] [(rr sa122_)] t
  refine XS.aloadN X13.here hx rfl (hb hby d8_24) rfl rfl ?_
  exact k
 obtain ⟨_, T16, L16, X16, hQ16, c16⟩ := kvirt X13 hx hZ hown (w56 hw) (w57 hw) (w59 hw) (w58 hw) (w60 hw) (w6 hw) (rm_seq_new_changed l Z a0 hw [] sa122_ sa128_ sk174_ s_ bs_ ks_ si162_ [(ii 110), (ii 101), (ii 119)] [(ii 99), (ii 104), (ii 97), (ii 110), (ii 103), (ii 101), (ii 100)] T1.heap n0 o8 (ZE16_.ext o8.2) (ZF17_.ext o8.2) (ZF18_.ext o8.2) (ZA36_.ext o8.2) (E0_.keep K4) (F1_.keep K4 nin0) (F2_.keep K4 nin0) (A3_.keep K4 nin0) ZS31_ sn165_ q14) e13 (ZE16_.ext o8.2) c15 hml pd_pLjava_lang_Object_rZ [(rr s_)] [] 0 (hb hby d8_25) rfl rfl rfl rfl rfl rfl
 obtain ⟨rfl, N17q, K18⟩ := hQ16
 have N17 := Fr.app N3 N17q
 have c19 : Kt p e below T16 st0 (mkF m 21 #[vr s_, vr b2, vi 4, vi 1, vr sa110_] [(rr sa110_)]) := fun t k => by
  refine c16 t ?_
  show S_ p e below T16 m 28 #[vr s_, vr b2, vi 4, vi 0, vr sa101_] [(ii 0)] t
  refine yI X16.here hx rfl 28 34 rfl (hb hby d8_28) rfl rfl ?_
  show S_ p e below T16 m 34 #[vr s_, vr b2, vi 4, vi 0, vr sa101_] [] t
  refine XS.iinc X16.here hx rfl (hb hby d8_34) rfl (l' := #[vr s_, vr b2, vi 4, vi 1, vr sa101_]) rfl ?_
  show S_ p e below T16 m 37 #[vr s_, vr b2, vi 4, vi 1, vr sa101_] [] t
  refine yG X16.here hx rfl 37 9 rfl (hb hby d8_37) ?_
  show S_ p e below T16 m 9 #[vr s_, vr b2, vi 4, vi 1, vr sa101_] [] t
  refine XS.iloadN X16.here hx rfl (hb hby d8_9) rfl ?_
  show S_ p e below T16 m 10 #[vr s_, vr b2, vi 4, vi 1, vr sa101_] [(ii 1)] t
  refine XS.iloadN X16.here hx rfl (hb hby d8_10) rfl ?_
  show S_ p e below T16 m 11 #[vr s_, vr b2, vi 4, vi 1, vr sa101_] [(ii 4), (ii 1)] t
  refine XS.icmpNo X16.here hx rfl (hb hby d8_11) rfl rfl ?_
  show S_ p e below T16 m 14 #[vr s_, vr b2, vi 4, vi 1, vr sa101_] [] t
  refine XS.aloadN X16.here hx rfl (hb hby d8_14) rfl rfl ?_
  show S_ p e below T16 m 15 #[vr s_, vr b2, vi 4, vi 1, vr sa101_] [(rr b2)] t
  refine XS.iloadN X16.here hx rfl (hb hby d8_15) rfl ?_
  show S_ p e below T16 m 16 #[vr s_, vr b2, vi 4, vi 1, vr sa101_] [(ii 1), (rr b2)] t
  refine ldA X16 hx hZ K18 p5 (v := (rr sa110_)) (by decide) (by decide) rfl rfl rfl (hb hby d8_16) ?_
  show S_ p e below T16 m 17 #[vr s_, vr b2, vi 4, vi 1, vr sa101_] [(rr sa110_)] t
  refine XS.astore X16.here hx rfl (hb hby d8_17) rfl rfl (l' := #[vr s_, vr b2, vi 4, vi 1, vr sa110_]) rfl ?_
  show S_ p e below T16 m 19 #[vr s_, vr b2, vi 4, vi 1, vr sa110_] [] t
  refine XS.aload X16.here hx rfl (hb hby d8_19) rfl rfl ?_
  exact k
 obtain ⟨T20, X20, e20, c20⟩ := kget X16 hx hZ hown (host := "") (Or.inl (w54 hw)) Via.refl K18 (ZF19_.ext o8.2) c19 rfl rfl (hb hby d8_21)
 have q21 := Nat.ne_of_lt (Nat.lt_of_lt_of_le ZE20_.lt (Nat.le_trans (Nat.le_of_eq O0.1) G4_))
 have c22 : Kt p e below T20 st0 (mkF m 25 #[vr s_, vr b2, vi 4, vi 1, vr sa110_] [(rr s_), (rr sa132_)]) := fun t k => by
  refine c20 t ?_
  show S_ p e below T20 m 24 #[vr s_, vr b2, vi 4, vi 1, vr sa110_] [(rr sa132_)] t
  refine XS.aloadN X20.here hx rfl (hb hby d8_24) rfl rfl ?_
  exact k
 obtain ⟨_, T23, L23, X23, hQ23, c23⟩ := kvirt X20 hx hZ hown (w56 hw) (w57 hw) (w59 hw) (w58 hw) (w60 hw) (w6 hw) (rm_seq_changed l Z a0 hw [] sa132_ sa138_ sk177_ s_ bs_ ks_ si162_ T1.heap n0 o8 (ZE20_.ext o8.2) (ZF21_.ext o8.2) (ZF22_.ext o8.2) (ZA37_.ext o8.2) (E0_.keep K4) (F1_.keep K4 nin0) (F2_.keep K4 nin0) (A3_.keep K4 nin0) ZS31_ sn165_ q21) e20 (ZE20_.ext o8.2) c22 hml pd_pLjava_lang_Object_rZ [(rr s_)] [] 0 (hb hby d8_25) rfl rfl rfl rfl rfl rfl
 obtain ⟨rfl, N24q, K25⟩ := hQ23
 have N24 := Fr.app N17 N24q
 obtain ⟨fs, hr, hrun, hended, hW, hsame⟩ := X23.leave (v := some (rr sa110_)) (fun h => by rw [Bd.returns] at h; cases h)
 refine ⟨_, _, c23 _ ?_, hrun, hended, _, _, rfl, ?_, ⟨_, rfl⟩, hW, hsame.mono (by decide) (by decide)⟩
 ·show S_ p e below T23 m 28 #[vr s_, vr b2, vi 4, vi 1, vr sa110_] [(ii 1)] _
  refine XS.ifNo X23.here hx rfl (hb hby d8_28) rfl rfl ?_
  show S_ p e below T23 m 31 #[vr s_, vr b2, vi 4, vi 1, vr sa110_] [] _
  refine XS.aload X23.here hx rfl (hb hby d8_31) rfl rfl ?_
  show S_ p e below T23 m 33 #[vr s_, vr b2, vi 4, vi 1, vr sa110_] [(rr sa110_)] _
  exact retOut X23 hx Bd.returns rfl (Or.inr (Or.inr (Or.inr (Or.inr ⟨rfl, rfl, rfl⟩)))) (hb hby d8_33) hr
 ·show Q_ofLabel_changed Z s_ bs_ ks_ sa101_ sa105_ sa110_ sa114_ sa118_ sa122_ sa128_ sa132_ sa138_ sa142_ sa148_ sa152_ sa158_ si162_ sv167_ sk171_ sk174_ sk177_ sk180_ sk183_ h0 n0 _ T23.heap _
  rw [K25]
  exact ⟨rfl, N24, kp9⟩
theorem ef_ofLabel_unchanged (m : MethodId) (s_ : Addr) : entryFrame m #[(rr s_)] 5 = mkF m 0 #[vr s_, u_, u_, u_, u_] [] := by first | (simp [entryFrame, mkF, argsToLocals, Value.category]; done) | rfl
def Q_ofLabel_unchanged (Z : State) (s_ : Addr) (bs_ : Addr) (ks_ : ClassId) (sa101_ : Addr) (sa105_ : Addr) (sa110_ : Addr) (sa114_ : Addr) (sa118_ : Addr) (sa122_ : Addr) (sa128_ : Addr) (sa132_ : Addr) (sa138_ : Addr) (sa142_ : Addr) (sa148_ : Addr) (sa152_ : Addr) (sa158_ : Addr) (si162_ : Int32) (sv167_ : Value) (sk171_ : ClassId) (sk174_ : ClassId) (sk177_ : ClassId) (sk180_ : ClassId) (sk183_ : ClassId) (h0 : Heap) (n0 : Nat) (v : Option Value) (h : Heap) (L : List Loc) : Prop := v = some (rr sa114_) ∧ Fr n0 L ∧ Keep h0 h []
set_option maxRecDepth 65536 in
set_option maxHeartbeats 40000000 in
theorem rm_ofLabel_unchanged (l : Launch) (Z : State) (a0 : Array Value) (hw : HW Z a0) (ws : List Jvm.Cond) (s_ : Addr) (bs_ : Addr) (ks_ : ClassId) (sa101_ : Addr) (sa105_ : Addr) (sa110_ : Addr) (sa114_ : Addr) (sa118_ : Addr) (sa122_ : Addr) (sa128_ : Addr) (sa132_ : Addr) (sa138_ : Addr) (sa142_ : Addr) (sa148_ : Addr) (sa152_ : Addr) (sa158_ : Addr) (si162_ : Int32) (sv167_ : Value) (sk171_ : ClassId) (sk174_ : ClassId) (sk177_ : ClassId) (sk180_ : ClassId) (sk183_ : ClassId) (h0 : Heap) (n0 : Nat) (O0 : Old Z n0 h0) (E0_ : Exa Z h0 s_ nm1) (F1_ : Fld Z h0 s_ nm1 "coder" "B" (ii 0)) (F2_ : Fld Z h0 s_ nm1 "value" "[B" (rr bs_)) (A3_ : Arv Z h0 bs_ ks_ .byte (9 : Int32) [(ii 117), (ii 110), (ii 99), (ii 104), (ii 97), (ii 110), (ii 103), (ii 101), (ii 100)] (ii 0)) (G4_ : n0 ≤ s_) (ZS5_ : Sta Z Z.heap nm0 "NEW" nm2 (rr sa101_)) (ZE6_ : Exa Z Z.heap sa101_ nm0) (ZS7_ : Sta Z Z.heap nm0 "$VALUES" nm3 (rr sa105_)) (ZE8_ : Exa Z Z.heap sa105_ nm3) (ZS9_ : Sta Z Z.heap nm0 "CHANGED" nm2 (rr sa110_)) (ZE10_ : Exa Z Z.heap sa110_ nm0) (ZS11_ : Sta Z Z.heap nm0 "UNCHANGED" nm2 (rr sa114_)) (ZE12_ : Exa Z Z.heap sa114_ nm0) (ZS13_ : Sta Z Z.heap nm0 "ERROR" nm2 (rr sa118_)) (ZE14_ : Exa Z Z.heap sa118_ nm0) (ZF15_ : Fld Z Z.heap sa101_ nm0 "label" nm7 (rr sa122_)) (ZE16_ : Exa Z Z.heap sa122_ nm1) (ZF17_ : Fld Z Z.heap sa122_ nm1 "coder" "B" (ii 0)) (ZF18_ : Fld Z Z.heap sa122_ nm1 "value" "[B" (rr sa128_)) (ZF19_ : Fld Z Z.heap sa110_ nm0 "label" nm7 (rr sa132_)) (ZE20_ : Exa Z Z.heap sa132_ nm1) (ZF21_ : Fld Z Z.heap sa132_ nm1 "coder" "B" (ii 0)) (ZF22_ : Fld Z Z.heap sa132_ nm1 "value" "[B" (rr sa138_)) (ZF23_ : Fld Z Z.heap sa114_ nm0 "label" nm7 (rr sa142_)) (ZE24_ : Exa Z Z.heap sa142_ nm1) (ZF25_ : Fld Z Z.heap sa142_ nm1 "coder" "B" (ii 0)) (ZF26_ : Fld Z Z.heap sa142_ nm1 "value" "[B" (rr sa148_)) (ZF27_ : Fld Z Z.heap sa118_ nm0 "label" nm7 (rr sa152_)) (ZE28_ : Exa Z Z.heap sa152_ nm1) (ZF29_ : Fld Z Z.heap sa152_ nm1 "coder" "B" (ii 0)) (ZF30_ : Fld Z Z.heap sa152_ nm1 "value" "[B" (rr sa158_)) (ZS31_ : Sta Z Z.heap nm1 "COMPACT_STRINGS" "Z" (.int si162_)) (sn165_ : ¬ (si162_ = (0 : Int32))) (sv167_r : sv167_.isRef = true) (ZS34_ : Sta Z Z.heap "jdk/internal/util/Preconditions" "SIOOBE_FORMATTER" "Ljava/util/function/BiFunction;" sv167_) (ZA35_ : Arv Z Z.heap sa105_ sk171_ (.object nm0) (4 : Int32) [(rr sa101_), (rr sa110_), (rr sa114_), (rr sa118_)] .null) (ZA36_ : Arv Z Z.heap sa128_ sk174_ .byte (3 : Int32) [(ii 110), (ii 101), (ii 119)] (ii 0)) (ZA37_ : Arv Z Z.heap sa138_ sk177_ .byte (7 : Int32) [(ii 99), (ii 104), (ii 97), (ii 110), (ii 103), (ii 101), (ii 100)] (ii 0)) (ZA38_ : Arv Z Z.heap sa148_ sk180_ .byte (9 : Int32) [(ii 117), (ii 110), (ii 99), (ii 104), (ii 97), (ii 110), (ii 103), (ii 101), (ii 100)] (ii 0)) (ZA39_ : Arv Z Z.heap sa158_ sk183_ .byte (5 : Int32) [(ii 101), (ii 114), (ii 114), (ii 111), (ii 114)] (ii 0)) :
  MFP l Z (⟨nm0, "ofLabel", nm8⟩ : MethodName) prog_9_method_5_code 5 (some (.object nm0)) ({ frames := 2, cells := 1, slots := 4, locals := 28 } : Room) ws #[(rr s_)] h0 (Q_ofLabel_unchanged Z s_ bs_ ks_ sa101_ sa105_ sa110_ sa114_ sa118_ sa122_ sa128_ sa132_ sa138_ sa142_ sa148_ sa152_ sa158_ si162_ sv167_ sk171_ sk174_ sk177_ sk180_ sk183_ h0 n0) := by
 refine MetFree.of_bodySF (plainFor_of_name pn_com_example_elvina_elvina_monitor_Outcome) hisR ?_
 intro p e s m args below meth c s₁ Bd hml0 hP hK
 obtain ⟨rfl, hZ, hh⟩ := hP
 have hx := Bd.exec
 have hby := Bd.bytes
 have hml : c.maxLocals = 5 := hml0
 have hown : s.vm.findClass nm0 = some m.cls := findClass_of_methodNamed Bd.named
 have hnm := (name_of_methodNamed Bd.named Bd.method).1
 have X0 : Stand p l e ({ frames := 2, cells := 1, slots := 4, locals := 28 } : Room) s m #[(rr s_)] below meth c s₁ [] 0 0 := Stand.of_body Bd
 have e0 : s₁.heap = h0 := by rw [← hh, Bd.state]; rfl
 have N0 := Fr.nil n0
 have kp0 : Keep h0 h0 [] := Keep.refl _ _
 have c0 : ∀ t, S_ p e below s₁ m 0 #[vr s_, u_, u_, u_, u_] [] t → Steps p.tables e below (s₁.setTop (entryFrame m #[(rr s_)] 5)) t := fun t k => castTop (ef_ofLabel_unchanged m s_) k
 generalize s₁.setTop (entryFrame m #[(rr s_)] 5) = st0 at c0 ⊢
 replace c0 : Kt p e below s₁ st0 (mkF m 0 #[vr s_, u_, u_, u_, u_] []) := c0
 obtain ⟨_, T1, L1, X1, hQ1, c1⟩ := kstat X0 hx hZ hown (w36 hw) (w37 hw) (w1 hw) (w38 hw) (rm_values l Z a0 hw [] sa105_ sk171_ sa101_ sa110_ sa114_ sa118_ h0 n0 O0 ZS7_ ZA35_ ZE8_) e0 c0 hml pd_prALcom_example_elvina_elvina_monitor_Outcome_ [] [] 0 (hb hby d8_0) rfl rfl rfl rfl rfl rfl
 obtain ⟨b2, rfl, N3q, K4, p5, p6, p7⟩ := hQ1
 have N3 := Fr.app N0 N3q
 have o8 := O0.keep K4 all0
 have kp9 := kp0.trans K4 all0
 have z10 := Nat.le_trans kp0.1 p7
 have g11 := Nat.le_trans (Nat.le_trans (Nat.le_of_eq O0.1.symm) O0.2.1) p7
 have c12 : Kt p e below T1 st0 (mkF m 21 #[vr s_, vr b2, vi 4, vi 0, vr sa101_] [(rr sa101_)]) := fun t k => by
  refine c1 t ?_
  show S_ p e below T1 m 3 #[vr s_, u_, u_, u_, u_] [(rr b2)] t
  refine XS.astoreN X1.here hx rfl (hb hby d8_3) rfl rfl (l' := #[vr s_, vr b2, u_, u_, u_]) rfl ?_
  show S_ p e below T1 m 4 #[vr s_, vr b2, u_, u_, u_] [] t
  refine XS.aloadN X1.here hx rfl (hb hby d8_4) rfl rfl ?_
  show S_ p e below T1 m 5 #[vr s_, vr b2, u_, u_, u_] [(rr b2)] t
  refine ldLen X1 hx hZ rfl p5 rfl rfl (hb hby d8_5) ?_
  show S_ p e below T1 m 6 #[vr s_, vr b2, u_, u_, u_] [(ii 4)] t
  refine XS.istoreN X1.here hx rfl (hb hby d8_6) rfl (l' := #[vr s_, vr b2, vi 4, u_, u_]) rfl ?_
  show S_ p e below T1 m 7 #[vr s_, vr b2, vi 4, u_, u_] [] t
  refine XS.iconst X1.here hx rfl (hb hby d8_7) ?_
  show S_ p e below T1 m 8 #[vr s_, vr b2, vi 4, u_, u_] [(ii 0)] t
  refine XS.istoreN X1.here hx rfl (hb hby d8_8) rfl (l' := #[vr s_, vr b2, vi 4, vi 0, u_]) rfl ?_
  show S_ p e below T1 m 9 #[vr s_, vr b2, vi 4, vi 0, u_] [] t
  refine XS.iloadN X1.here hx rfl (hb hby d8_9) rfl ?_
  show S_ p e below T1 m 10 #[vr s_, vr b2, vi 4, vi 0, u_] [(ii 0)] t
  refine XS.iloadN X1.here hx rfl (hb hby d8_10) rfl ?_
  show S_ p e below T1 m 11 #[vr s_, vr b2, vi 4, vi 0, u_] [(ii 4), (ii 0)] t
  refine XS.icmpNo X1.here hx rfl (hb hby d8_11) rfl rfl ?_
  show S_ p e below T1 m 14 #[vr s_, vr b2, vi 4, vi 0, u_] [] t
  refine XS.aloadN X1.here hx rfl (hb hby d8_14) rfl rfl ?_
  show S_ p e below T1 m 15 #[vr s_, vr b2, vi 4, vi 0, u_] [(rr b2)] t
  refine XS.iloadN X1.here hx rfl (hb hby d8_15) rfl ?_
  show S_ p e below T1 m 16 #[vr s_, vr b2, vi 4, vi 0, u_] [(ii 0), (rr b2)] t
  refine ldA X1 hx hZ rfl p5 (v := (rr sa101_)) (by decide) (by decide) rfl rfl rfl (hb hby d8_16) ?_
  show S_ p e below T1 m 17 #[vr s_, vr b2, vi 4, vi 0, u_] [(rr sa101_)] t
  refine XS.astore X1.here hx rfl (hb hby d8_17) rfl rfl (l' := #[vr s_, vr b2, vi 4, vi 0, vr sa101_]) rfl ?_
  show S_ p e below T1 m 19 #[vr s_, vr b2, vi 4, vi 0, vr sa101_] [] t
  refine XS.aload X1.here hx rfl (hb hby d8_19) rfl rfl ?_
  exact k
 obtain ⟨T13, X13, e13, c13⟩ := kget X1 hx hZ hown (host := "") (Or.inl (w54 hw)) Via.refl rfl (ZF15_.ext o8.2) c12 rfl rfl (hb hby d8_21)
 have q14 := Nat.ne_of_lt (Nat.lt_of_lt_of_le ZE16_.lt (Nat.le_trans (Nat.le_of_eq O0.1) G4_))
 have c15 : Kt p e below T13 st0 (mkF m 25 #[vr s_, vr b2, vi 4, vi 0, vr sa101_] [(rr s_), (rr sa122_)]) := fun t k => by
  refine c13 t ?_
  show S_ p e below T13 m 24 #[vr s_, vr b2, vi 4, vi 0, vr sa101_] [(rr sa122_)] t
  refine XS.aloadN X13.here hx rfl (hb hby d8_24) rfl rfl ?_
  exact k
 obtain ⟨_, T16, L16, X16, hQ16, c16⟩ := kvirt X13 hx hZ hown (w56 hw) (w57 hw) (w59 hw) (w58 hw) (w60 hw) (w6 hw) (rm_seq_new_unchanged l Z a0 hw [] sa122_ sa128_ sk174_ s_ bs_ ks_ si162_ [(ii 110), (ii 101), (ii 119)] [(ii 117), (ii 110), (ii 99), (ii 104), (ii 97), (ii 110), (ii 103), (ii 101), (ii 100)] T1.heap n0 o8 (ZE16_.ext o8.2) (ZF17_.ext o8.2) (ZF18_.ext o8.2) (ZA36_.ext o8.2) (E0_.keep K4) (F1_.keep K4 nin0) (F2_.keep K4 nin0) (A3_.keep K4 nin0) ZS31_ sn165_ q14) e13 (ZE16_.ext o8.2) c15 hml pd_pLjava_lang_Object_rZ [(rr s_)] [] 0 (hb hby d8_25) rfl rfl rfl rfl rfl rfl
 obtain ⟨rfl, N17q, K18⟩ := hQ16
 have N17 := Fr.app N3 N17q
 have c19 : Kt p e below T16 st0 (mkF m 21 #[vr s_, vr b2, vi 4, vi 1, vr sa110_] [(rr sa110_)]) := fun t k => by
  refine c16 t ?_
  show S_ p e below T16 m 28 #[vr s_, vr b2, vi 4, vi 0, vr sa101_] [(ii 0)] t
  refine yI X16.here hx rfl 28 34 rfl (hb hby d8_28) rfl rfl ?_
  show S_ p e below T16 m 34 #[vr s_, vr b2, vi 4, vi 0, vr sa101_] [] t
  refine XS.iinc X16.here hx rfl (hb hby d8_34) rfl (l' := #[vr s_, vr b2, vi 4, vi 1, vr sa101_]) rfl ?_
  show S_ p e below T16 m 37 #[vr s_, vr b2, vi 4, vi 1, vr sa101_] [] t
  refine yG X16.here hx rfl 37 9 rfl (hb hby d8_37) ?_
  show S_ p e below T16 m 9 #[vr s_, vr b2, vi 4, vi 1, vr sa101_] [] t
  refine XS.iloadN X16.here hx rfl (hb hby d8_9) rfl ?_
  show S_ p e below T16 m 10 #[vr s_, vr b2, vi 4, vi 1, vr sa101_] [(ii 1)] t
  refine XS.iloadN X16.here hx rfl (hb hby d8_10) rfl ?_
  show S_ p e below T16 m 11 #[vr s_, vr b2, vi 4, vi 1, vr sa101_] [(ii 4), (ii 1)] t
  refine XS.icmpNo X16.here hx rfl (hb hby d8_11) rfl rfl ?_
  show S_ p e below T16 m 14 #[vr s_, vr b2, vi 4, vi 1, vr sa101_] [] t
  refine XS.aloadN X16.here hx rfl (hb hby d8_14) rfl rfl ?_
  show S_ p e below T16 m 15 #[vr s_, vr b2, vi 4, vi 1, vr sa101_] [(rr b2)] t
  refine XS.iloadN X16.here hx rfl (hb hby d8_15) rfl ?_
  show S_ p e below T16 m 16 #[vr s_, vr b2, vi 4, vi 1, vr sa101_] [(ii 1), (rr b2)] t
  refine ldA X16 hx hZ K18 p5 (v := (rr sa110_)) (by decide) (by decide) rfl rfl rfl (hb hby d8_16) ?_
  show S_ p e below T16 m 17 #[vr s_, vr b2, vi 4, vi 1, vr sa101_] [(rr sa110_)] t
  refine XS.astore X16.here hx rfl (hb hby d8_17) rfl rfl (l' := #[vr s_, vr b2, vi 4, vi 1, vr sa110_]) rfl ?_
  show S_ p e below T16 m 19 #[vr s_, vr b2, vi 4, vi 1, vr sa110_] [] t
  refine XS.aload X16.here hx rfl (hb hby d8_19) rfl rfl ?_
  exact k
 obtain ⟨T20, X20, e20, c20⟩ := kget X16 hx hZ hown (host := "") (Or.inl (w54 hw)) Via.refl K18 (ZF19_.ext o8.2) c19 rfl rfl (hb hby d8_21)
 have q21 := Nat.ne_of_lt (Nat.lt_of_lt_of_le ZE20_.lt (Nat.le_trans (Nat.le_of_eq O0.1) G4_))
 have c22 : Kt p e below T20 st0 (mkF m 25 #[vr s_, vr b2, vi 4, vi 1, vr sa110_] [(rr s_), (rr sa132_)]) := fun t k => by
  refine c20 t ?_
  show S_ p e below T20 m 24 #[vr s_, vr b2, vi 4, vi 1, vr sa110_] [(rr sa132_)] t
  refine XS.aloadN X20.here hx rfl (hb hby d8_24) rfl rfl ?_
  exact k
 obtain ⟨_, T23, L23, X23, hQ23, c23⟩ := kvirt X20 hx hZ hown (w56 hw) (w57 hw) (w59 hw) (w58 hw) (w60 hw) (w6 hw) (rm_seq_changed_unchanged l Z a0 hw [] sa132_ sa138_ sk177_ s_ bs_ ks_ si162_ [(ii 99), (ii 104), (ii 97), (ii 110), (ii 103), (ii 101), (ii 100)] [(ii 117), (ii 110), (ii 99), (ii 104), (ii 97), (ii 110), (ii 103), (ii 101), (ii 100)] T1.heap n0 o8 (ZE20_.ext o8.2) (ZF21_.ext o8.2) (ZF22_.ext o8.2) (ZA37_.ext o8.2) (E0_.keep K4) (F1_.keep K4 nin0) (F2_.keep K4 nin0) (A3_.keep K4 nin0) ZS31_ sn165_ q21) e20 (ZE20_.ext o8.2) c22 hml pd_pLjava_lang_Object_rZ [(rr s_)] [] 0 (hb hby d8_25) rfl rfl rfl rfl rfl rfl
 obtain ⟨rfl, N24q, K25⟩ := hQ23
 have N24 := Fr.app N17 N24q
 have c26 : Kt p e below T23 st0 (mkF m 21 #[vr s_, vr b2, vi 4, vi 2, vr sa114_] [(rr sa114_)]) := fun t k => by
  refine c23 t ?_
  show S_ p e below T23 m 28 #[vr s_, vr b2, vi 4, vi 1, vr sa110_] [(ii 0)] t
  refine yI X23.here hx rfl 28 34 rfl (hb hby d8_28) rfl rfl ?_
  show S_ p e below T23 m 34 #[vr s_, vr b2, vi 4, vi 1, vr sa110_] [] t
  refine XS.iinc X23.here hx rfl (hb hby d8_34) rfl (l' := #[vr s_, vr b2, vi 4, vi 2, vr sa110_]) rfl ?_
  show S_ p e below T23 m 37 #[vr s_, vr b2, vi 4, vi 2, vr sa110_] [] t
  refine yG X23.here hx rfl 37 9 rfl (hb hby d8_37) ?_
  show S_ p e below T23 m 9 #[vr s_, vr b2, vi 4, vi 2, vr sa110_] [] t
  refine XS.iloadN X23.here hx rfl (hb hby d8_9) rfl ?_
  show S_ p e below T23 m 10 #[vr s_, vr b2, vi 4, vi 2, vr sa110_] [(ii 2)] t
  refine XS.iloadN X23.here hx rfl (hb hby d8_10) rfl ?_
  show S_ p e below T23 m 11 #[vr s_, vr b2, vi 4, vi 2, vr sa110_] [(ii 4), (ii 2)] t
  refine XS.icmpNo X23.here hx rfl (hb hby d8_11) rfl rfl ?_
  show S_ p e below T23 m 14 #[vr s_, vr b2, vi 4, vi 2, vr sa110_] [] t
  refine XS.aloadN X23.here hx rfl (hb hby d8_14) rfl rfl ?_
  show S_ p e below T23 m 15 #[vr s_, vr b2, vi 4, vi 2, vr sa110_] [(rr b2)] t
  refine XS.iloadN X23.here hx rfl (hb hby d8_15) rfl ?_
  show S_ p e below T23 m 16 #[vr s_, vr b2, vi 4, vi 2, vr sa110_] [(ii 2), (rr b2)] t
  refine ldA X23 hx hZ K25 p5 (v := (rr sa114_)) (by decide) (by decide) rfl rfl rfl (hb hby d8_16) ?_
  show S_ p e below T23 m 17 #[vr s_, vr b2, vi 4, vi 2, vr sa110_] [(rr sa114_)] t
  refine XS.astore X23.here hx rfl (hb hby d8_17) rfl rfl (l' := #[vr s_, vr b2, vi 4, vi 2, vr sa114_]) rfl ?_
  show S_ p e below T23 m 19 #[vr s_, vr b2, vi 4, vi 2, vr sa114_] [] t
  refine XS.aload X23.here hx rfl (hb hby d8_19) rfl rfl ?_
  exact k
 obtain ⟨T27, X27, e27, c27⟩ := kget X23 hx hZ hown (host := "") (Or.inl (w54 hw)) Via.refl K25 (ZF23_.ext o8.2) c26 rfl rfl (hb hby d8_21)
 have q28 := Nat.ne_of_lt (Nat.lt_of_lt_of_le ZE24_.lt (Nat.le_trans (Nat.le_of_eq O0.1) G4_))
 have c29 : Kt p e below T27 st0 (mkF m 25 #[vr s_, vr b2, vi 4, vi 2, vr sa114_] [(rr s_), (rr sa142_)]) := fun t k => by
  refine c27 t ?_
  show S_ p e below T27 m 24 #[vr s_, vr b2, vi 4, vi 2, vr sa114_] [(rr sa142_)] t
  refine XS.aloadN X27.here hx rfl (hb hby d8_24) rfl rfl ?_
  exact k
 obtain ⟨_, T30, L30, X30, hQ30, c30⟩ := kvirt X27 hx hZ hown (w56 hw) (w57 hw) (w59 hw) (w58 hw) (w60 hw) (w6 hw) (rm_seq_unchanged l Z a0 hw [] sa142_ sa148_ sk180_ s_ bs_ ks_ si162_ T1.heap n0 o8 (ZE24_.ext o8.2) (ZF25_.ext o8.2) (ZF26_.ext o8.2) (ZA38_.ext o8.2) (E0_.keep K4) (F1_.keep K4 nin0) (F2_.keep K4 nin0) (A3_.keep K4 nin0) ZS31_ sn165_ q28) e27 (ZE24_.ext o8.2) c29 hml pd_pLjava_lang_Object_rZ [(rr s_)] [] 0 (hb hby d8_25) rfl rfl rfl rfl rfl rfl
 obtain ⟨rfl, N31q, K32⟩ := hQ30
 have N31 := Fr.app N24 N31q
 obtain ⟨fs, hr, hrun, hended, hW, hsame⟩ := X30.leave (v := some (rr sa114_)) (fun h => by rw [Bd.returns] at h; cases h)
 refine ⟨_, _, c30 _ ?_, hrun, hended, _, _, rfl, ?_, ⟨_, rfl⟩, hW, hsame.mono (by decide) (by decide)⟩
 ·show S_ p e below T30 m 28 #[vr s_, vr b2, vi 4, vi 2, vr sa114_] [(ii 1)] _
  refine XS.ifNo X30.here hx rfl (hb hby d8_28) rfl rfl ?_
  show S_ p e below T30 m 31 #[vr s_, vr b2, vi 4, vi 2, vr sa114_] [] _
  refine XS.aload X30.here hx rfl (hb hby d8_31) rfl rfl ?_
  show S_ p e below T30 m 33 #[vr s_, vr b2, vi 4, vi 2, vr sa114_] [(rr sa114_)] _
  exact retOut X30 hx Bd.returns rfl (Or.inr (Or.inr (Or.inr (Or.inr ⟨rfl, rfl, rfl⟩)))) (hb hby d8_33) hr
 ·show Q_ofLabel_unchanged Z s_ bs_ ks_ sa101_ sa105_ sa110_ sa114_ sa118_ sa122_ sa128_ sa132_ sa138_ sa142_ sa148_ sa152_ sa158_ si162_ sv167_ sk171_ sk174_ sk177_ sk180_ sk183_ h0 n0 _ T30.heap _
  rw [K32]
  exact ⟨rfl, N31, kp9⟩
theorem ef_ofLabel_error (m : MethodId) (s_ : Addr) : entryFrame m #[(rr s_)] 5 = mkF m 0 #[vr s_, u_, u_, u_, u_] [] := by first | (simp [entryFrame, mkF, argsToLocals, Value.category]; done) | rfl
def Q_ofLabel_error (Z : State) (s_ : Addr) (bs_ : Addr) (ks_ : ClassId) (sa101_ : Addr) (sa105_ : Addr) (sa110_ : Addr) (sa114_ : Addr) (sa118_ : Addr) (sa122_ : Addr) (sa128_ : Addr) (sa132_ : Addr) (sa138_ : Addr) (sa142_ : Addr) (sa148_ : Addr) (sa152_ : Addr) (sa158_ : Addr) (si162_ : Int32) (sv167_ : Value) (sk171_ : ClassId) (sk174_ : ClassId) (sk177_ : ClassId) (sk180_ : ClassId) (sk183_ : ClassId) (h0 : Heap) (n0 : Nat) (v : Option Value) (h : Heap) (L : List Loc) : Prop := v = some (rr sa118_) ∧ Fr n0 L ∧ Keep h0 h []
set_option maxRecDepth 65536 in
set_option maxHeartbeats 40000000 in
theorem rm_ofLabel_error (l : Launch) (Z : State) (a0 : Array Value) (hw : HW Z a0) (ws : List Jvm.Cond) (s_ : Addr) (bs_ : Addr) (ks_ : ClassId) (sa101_ : Addr) (sa105_ : Addr) (sa110_ : Addr) (sa114_ : Addr) (sa118_ : Addr) (sa122_ : Addr) (sa128_ : Addr) (sa132_ : Addr) (sa138_ : Addr) (sa142_ : Addr) (sa148_ : Addr) (sa152_ : Addr) (sa158_ : Addr) (si162_ : Int32) (sv167_ : Value) (sk171_ : ClassId) (sk174_ : ClassId) (sk177_ : ClassId) (sk180_ : ClassId) (sk183_ : ClassId) (h0 : Heap) (n0 : Nat) (O0 : Old Z n0 h0) (E0_ : Exa Z h0 s_ nm1) (F1_ : Fld Z h0 s_ nm1 "coder" "B" (ii 0)) (F2_ : Fld Z h0 s_ nm1 "value" "[B" (rr bs_)) (A3_ : Arv Z h0 bs_ ks_ .byte (5 : Int32) [(ii 101), (ii 114), (ii 114), (ii 111), (ii 114)] (ii 0)) (G4_ : n0 ≤ s_) (ZS5_ : Sta Z Z.heap nm0 "NEW" nm2 (rr sa101_)) (ZE6_ : Exa Z Z.heap sa101_ nm0) (ZS7_ : Sta Z Z.heap nm0 "$VALUES" nm3 (rr sa105_)) (ZE8_ : Exa Z Z.heap sa105_ nm3) (ZS9_ : Sta Z Z.heap nm0 "CHANGED" nm2 (rr sa110_)) (ZE10_ : Exa Z Z.heap sa110_ nm0) (ZS11_ : Sta Z Z.heap nm0 "UNCHANGED" nm2 (rr sa114_)) (ZE12_ : Exa Z Z.heap sa114_ nm0) (ZS13_ : Sta Z Z.heap nm0 "ERROR" nm2 (rr sa118_)) (ZE14_ : Exa Z Z.heap sa118_ nm0) (ZF15_ : Fld Z Z.heap sa101_ nm0 "label" nm7 (rr sa122_)) (ZE16_ : Exa Z Z.heap sa122_ nm1) (ZF17_ : Fld Z Z.heap sa122_ nm1 "coder" "B" (ii 0)) (ZF18_ : Fld Z Z.heap sa122_ nm1 "value" "[B" (rr sa128_)) (ZF19_ : Fld Z Z.heap sa110_ nm0 "label" nm7 (rr sa132_)) (ZE20_ : Exa Z Z.heap sa132_ nm1) (ZF21_ : Fld Z Z.heap sa132_ nm1 "coder" "B" (ii 0)) (ZF22_ : Fld Z Z.heap sa132_ nm1 "value" "[B" (rr sa138_)) (ZF23_ : Fld Z Z.heap sa114_ nm0 "label" nm7 (rr sa142_)) (ZE24_ : Exa Z Z.heap sa142_ nm1) (ZF25_ : Fld Z Z.heap sa142_ nm1 "coder" "B" (ii 0)) (ZF26_ : Fld Z Z.heap sa142_ nm1 "value" "[B" (rr sa148_)) (ZF27_ : Fld Z Z.heap sa118_ nm0 "label" nm7 (rr sa152_)) (ZE28_ : Exa Z Z.heap sa152_ nm1) (ZF29_ : Fld Z Z.heap sa152_ nm1 "coder" "B" (ii 0)) (ZF30_ : Fld Z Z.heap sa152_ nm1 "value" "[B" (rr sa158_)) (ZS31_ : Sta Z Z.heap nm1 "COMPACT_STRINGS" "Z" (.int si162_)) (sn165_ : ¬ (si162_ = (0 : Int32))) (sv167_r : sv167_.isRef = true) (ZS34_ : Sta Z Z.heap "jdk/internal/util/Preconditions" "SIOOBE_FORMATTER" "Ljava/util/function/BiFunction;" sv167_) (ZA35_ : Arv Z Z.heap sa105_ sk171_ (.object nm0) (4 : Int32) [(rr sa101_), (rr sa110_), (rr sa114_), (rr sa118_)] .null) (ZA36_ : Arv Z Z.heap sa128_ sk174_ .byte (3 : Int32) [(ii 110), (ii 101), (ii 119)] (ii 0)) (ZA37_ : Arv Z Z.heap sa138_ sk177_ .byte (7 : Int32) [(ii 99), (ii 104), (ii 97), (ii 110), (ii 103), (ii 101), (ii 100)] (ii 0)) (ZA38_ : Arv Z Z.heap sa148_ sk180_ .byte (9 : Int32) [(ii 117), (ii 110), (ii 99), (ii 104), (ii 97), (ii 110), (ii 103), (ii 101), (ii 100)] (ii 0)) (ZA39_ : Arv Z Z.heap sa158_ sk183_ .byte (5 : Int32) [(ii 101), (ii 114), (ii 114), (ii 111), (ii 114)] (ii 0)) :
  MFP l Z (⟨nm0, "ofLabel", nm8⟩ : MethodName) prog_9_method_5_code 5 (some (.object nm0)) ({ frames := 2, cells := 1, slots := 4, locals := 28 } : Room) ws #[(rr s_)] h0 (Q_ofLabel_error Z s_ bs_ ks_ sa101_ sa105_ sa110_ sa114_ sa118_ sa122_ sa128_ sa132_ sa138_ sa142_ sa148_ sa152_ sa158_ si162_ sv167_ sk171_ sk174_ sk177_ sk180_ sk183_ h0 n0) := by
 refine MetFree.of_bodySF (plainFor_of_name pn_com_example_elvina_elvina_monitor_Outcome) hisR ?_
 intro p e s m args below meth c s₁ Bd hml0 hP hK
 obtain ⟨rfl, hZ, hh⟩ := hP
 have hx := Bd.exec
 have hby := Bd.bytes
 have hml : c.maxLocals = 5 := hml0
 have hown : s.vm.findClass nm0 = some m.cls := findClass_of_methodNamed Bd.named
 have hnm := (name_of_methodNamed Bd.named Bd.method).1
 have X0 : Stand p l e ({ frames := 2, cells := 1, slots := 4, locals := 28 } : Room) s m #[(rr s_)] below meth c s₁ [] 0 0 := Stand.of_body Bd
 have e0 : s₁.heap = h0 := by rw [← hh, Bd.state]; rfl
 have N0 := Fr.nil n0
 have kp0 : Keep h0 h0 [] := Keep.refl _ _
 have c0 : ∀ t, S_ p e below s₁ m 0 #[vr s_, u_, u_, u_, u_] [] t → Steps p.tables e below (s₁.setTop (entryFrame m #[(rr s_)] 5)) t := fun t k => castTop (ef_ofLabel_error m s_) k
 generalize s₁.setTop (entryFrame m #[(rr s_)] 5) = st0 at c0 ⊢
 replace c0 : Kt p e below s₁ st0 (mkF m 0 #[vr s_, u_, u_, u_, u_] []) := c0
 obtain ⟨_, T1, L1, X1, hQ1, c1⟩ := kstat X0 hx hZ hown (w36 hw) (w37 hw) (w1 hw) (w38 hw) (rm_values l Z a0 hw [] sa105_ sk171_ sa101_ sa110_ sa114_ sa118_ h0 n0 O0 ZS7_ ZA35_ ZE8_) e0 c0 hml pd_prALcom_example_elvina_elvina_monitor_Outcome_ [] [] 0 (hb hby d8_0) rfl rfl rfl rfl rfl rfl
 obtain ⟨b2, rfl, N3q, K4, p5, p6, p7⟩ := hQ1
 have N3 := Fr.app N0 N3q
 have o8 := O0.keep K4 all0
 have kp9 := kp0.trans K4 all0
 have z10 := Nat.le_trans kp0.1 p7
 have g11 := Nat.le_trans (Nat.le_trans (Nat.le_of_eq O0.1.symm) O0.2.1) p7
 have c12 : Kt p e below T1 st0 (mkF m 21 #[vr s_, vr b2, vi 4, vi 0, vr sa101_] [(rr sa101_)]) := fun t k => by
  refine c1 t ?_
  show S_ p e below T1 m 3 #[vr s_, u_, u_, u_, u_] [(rr b2)] t
  refine XS.astoreN X1.here hx rfl (hb hby d8_3) rfl rfl (l' := #[vr s_, vr b2, u_, u_, u_]) rfl ?_
  show S_ p e below T1 m 4 #[vr s_, vr b2, u_, u_, u_] [] t
  refine XS.aloadN X1.here hx rfl (hb hby d8_4) rfl rfl ?_
  show S_ p e below T1 m 5 #[vr s_, vr b2, u_, u_, u_] [(rr b2)] t
  refine ldLen X1 hx hZ rfl p5 rfl rfl (hb hby d8_5) ?_
  show S_ p e below T1 m 6 #[vr s_, vr b2, u_, u_, u_] [(ii 4)] t
  refine XS.istoreN X1.here hx rfl (hb hby d8_6) rfl (l' := #[vr s_, vr b2, vi 4, u_, u_]) rfl ?_
  show S_ p e below T1 m 7 #[vr s_, vr b2, vi 4, u_, u_] [] t
  refine XS.iconst X1.here hx rfl (hb hby d8_7) ?_
  show S_ p e below T1 m 8 #[vr s_, vr b2, vi 4, u_, u_] [(ii 0)] t
  refine XS.istoreN X1.here hx rfl (hb hby d8_8) rfl (l' := #[vr s_, vr b2, vi 4, vi 0, u_]) rfl ?_
  show S_ p e below T1 m 9 #[vr s_, vr b2, vi 4, vi 0, u_] [] t
  refine XS.iloadN X1.here hx rfl (hb hby d8_9) rfl ?_
  show S_ p e below T1 m 10 #[vr s_, vr b2, vi 4, vi 0, u_] [(ii 0)] t
  refine XS.iloadN X1.here hx rfl (hb hby d8_10) rfl ?_
  show S_ p e below T1 m 11 #[vr s_, vr b2, vi 4, vi 0, u_] [(ii 4), (ii 0)] t
  refine XS.icmpNo X1.here hx rfl (hb hby d8_11) rfl rfl ?_
  show S_ p e below T1 m 14 #[vr s_, vr b2, vi 4, vi 0, u_] [] t
  refine XS.aloadN X1.here hx rfl (hb hby d8_14) rfl rfl ?_
  show S_ p e below T1 m 15 #[vr s_, vr b2, vi 4, vi 0, u_] [(rr b2)] t
  refine XS.iloadN X1.here hx rfl (hb hby d8_15) rfl ?_
  show S_ p e below T1 m 16 #[vr s_, vr b2, vi 4, vi 0, u_] [(ii 0), (rr b2)] t
  refine ldA X1 hx hZ rfl p5 (v := (rr sa101_)) (by decide) (by decide) rfl rfl rfl (hb hby d8_16) ?_
  show S_ p e below T1 m 17 #[vr s_, vr b2, vi 4, vi 0, u_] [(rr sa101_)] t
  refine XS.astore X1.here hx rfl (hb hby d8_17) rfl rfl (l' := #[vr s_, vr b2, vi 4, vi 0, vr sa101_]) rfl ?_
  show S_ p e below T1 m 19 #[vr s_, vr b2, vi 4, vi 0, vr sa101_] [] t
  refine XS.aload X1.here hx rfl (hb hby d8_19) rfl rfl ?_
  exact k
 obtain ⟨T13, X13, e13, c13⟩ := kget X1 hx hZ hown (host := "") (Or.inl (w54 hw)) Via.refl rfl (ZF15_.ext o8.2) c12 rfl rfl (hb hby d8_21)
 have q14 := Nat.ne_of_lt (Nat.lt_of_lt_of_le ZE16_.lt (Nat.le_trans (Nat.le_of_eq O0.1) G4_))
 have c15 : Kt p e below T13 st0 (mkF m 25 #[vr s_, vr b2, vi 4, vi 0, vr sa101_] [(rr s_), (rr sa122_)]) := fun t k => by
  refine c13 t ?_
  show S_ p e below T13 m 24 #[vr s_, vr b2, vi 4, vi 0, vr sa101_] [(rr sa122_)] t
  refine XS.aloadN X13.here hx rfl (hb hby d8_24) rfl rfl ?_
  exact k
 obtain ⟨_, T16, L16, X16, hQ16, c16⟩ := kvirt X13 hx hZ hown (w56 hw) (w57 hw) (w59 hw) (w58 hw) (w60 hw) (w6 hw) (rm_seq_new_error l Z a0 hw [] sa122_ sa128_ sk174_ s_ bs_ ks_ si162_ [(ii 110), (ii 101), (ii 119)] [(ii 101), (ii 114), (ii 114), (ii 111), (ii 114)] T1.heap n0 o8 (ZE16_.ext o8.2) (ZF17_.ext o8.2) (ZF18_.ext o8.2) (ZA36_.ext o8.2) (E0_.keep K4) (F1_.keep K4 nin0) (F2_.keep K4 nin0) (A3_.keep K4 nin0) ZS31_ sn165_ q14) e13 (ZE16_.ext o8.2) c15 hml pd_pLjava_lang_Object_rZ [(rr s_)] [] 0 (hb hby d8_25) rfl rfl rfl rfl rfl rfl
 obtain ⟨rfl, N17q, K18⟩ := hQ16
 have N17 := Fr.app N3 N17q
 have c19 : Kt p e below T16 st0 (mkF m 21 #[vr s_, vr b2, vi 4, vi 1, vr sa110_] [(rr sa110_)]) := fun t k => by
  refine c16 t ?_
  show S_ p e below T16 m 28 #[vr s_, vr b2, vi 4, vi 0, vr sa101_] [(ii 0)] t
  refine yI X16.here hx rfl 28 34 rfl (hb hby d8_28) rfl rfl ?_
  show S_ p e below T16 m 34 #[vr s_, vr b2, vi 4, vi 0, vr sa101_] [] t
  refine XS.iinc X16.here hx rfl (hb hby d8_34) rfl (l' := #[vr s_, vr b2, vi 4, vi 1, vr sa101_]) rfl ?_
  show S_ p e below T16 m 37 #[vr s_, vr b2, vi 4, vi 1, vr sa101_] [] t
  refine yG X16.here hx rfl 37 9 rfl (hb hby d8_37) ?_
  show S_ p e below T16 m 9 #[vr s_, vr b2, vi 4, vi 1, vr sa101_] [] t
  refine XS.iloadN X16.here hx rfl (hb hby d8_9) rfl ?_
  show S_ p e below T16 m 10 #[vr s_, vr b2, vi 4, vi 1, vr sa101_] [(ii 1)] t
  refine XS.iloadN X16.here hx rfl (hb hby d8_10) rfl ?_
  show S_ p e below T16 m 11 #[vr s_, vr b2, vi 4, vi 1, vr sa101_] [(ii 4), (ii 1)] t
  refine XS.icmpNo X16.here hx rfl (hb hby d8_11) rfl rfl ?_
  show S_ p e below T16 m 14 #[vr s_, vr b2, vi 4, vi 1, vr sa101_] [] t
  refine XS.aloadN X16.here hx rfl (hb hby d8_14) rfl rfl ?_
  show S_ p e below T16 m 15 #[vr s_, vr b2, vi 4, vi 1, vr sa101_] [(rr b2)] t
  refine XS.iloadN X16.here hx rfl (hb hby d8_15) rfl ?_
  show S_ p e below T16 m 16 #[vr s_, vr b2, vi 4, vi 1, vr sa101_] [(ii 1), (rr b2)] t
  refine ldA X16 hx hZ K18 p5 (v := (rr sa110_)) (by decide) (by decide) rfl rfl rfl (hb hby d8_16) ?_
  show S_ p e below T16 m 17 #[vr s_, vr b2, vi 4, vi 1, vr sa101_] [(rr sa110_)] t
  refine XS.astore X16.here hx rfl (hb hby d8_17) rfl rfl (l' := #[vr s_, vr b2, vi 4, vi 1, vr sa110_]) rfl ?_
  show S_ p e below T16 m 19 #[vr s_, vr b2, vi 4, vi 1, vr sa110_] [] t
  refine XS.aload X16.here hx rfl (hb hby d8_19) rfl rfl ?_
  exact k
 obtain ⟨T20, X20, e20, c20⟩ := kget X16 hx hZ hown (host := "") (Or.inl (w54 hw)) Via.refl K18 (ZF19_.ext o8.2) c19 rfl rfl (hb hby d8_21)
 have q21 := Nat.ne_of_lt (Nat.lt_of_lt_of_le ZE20_.lt (Nat.le_trans (Nat.le_of_eq O0.1) G4_))
 have c22 : Kt p e below T20 st0 (mkF m 25 #[vr s_, vr b2, vi 4, vi 1, vr sa110_] [(rr s_), (rr sa132_)]) := fun t k => by
  refine c20 t ?_
  show S_ p e below T20 m 24 #[vr s_, vr b2, vi 4, vi 1, vr sa110_] [(rr sa132_)] t
  refine XS.aloadN X20.here hx rfl (hb hby d8_24) rfl rfl ?_
  exact k
 obtain ⟨_, T23, L23, X23, hQ23, c23⟩ := kvirt X20 hx hZ hown (w56 hw) (w57 hw) (w59 hw) (w58 hw) (w60 hw) (w6 hw) (rm_seq_changed_error l Z a0 hw [] sa132_ sa138_ sk177_ s_ bs_ ks_ si162_ [(ii 99), (ii 104), (ii 97), (ii 110), (ii 103), (ii 101), (ii 100)] [(ii 101), (ii 114), (ii 114), (ii 111), (ii 114)] T1.heap n0 o8 (ZE20_.ext o8.2) (ZF21_.ext o8.2) (ZF22_.ext o8.2) (ZA37_.ext o8.2) (E0_.keep K4) (F1_.keep K4 nin0) (F2_.keep K4 nin0) (A3_.keep K4 nin0) ZS31_ sn165_ q21) e20 (ZE20_.ext o8.2) c22 hml pd_pLjava_lang_Object_rZ [(rr s_)] [] 0 (hb hby d8_25) rfl rfl rfl rfl rfl rfl
 obtain ⟨rfl, N24q, K25⟩ := hQ23
 have N24 := Fr.app N17 N24q
 have c26 : Kt p e below T23 st0 (mkF m 21 #[vr s_, vr b2, vi 4, vi 2, vr sa114_] [(rr sa114_)]) := fun t k => by
  refine c23 t ?_
  show S_ p e below T23 m 28 #[vr s_, vr b2, vi 4, vi 1, vr sa110_] [(ii 0)] t
  refine yI X23.here hx rfl 28 34 rfl (hb hby d8_28) rfl rfl ?_
  show S_ p e below T23 m 34 #[vr s_, vr b2, vi 4, vi 1, vr sa110_] [] t
  refine XS.iinc X23.here hx rfl (hb hby d8_34) rfl (l' := #[vr s_, vr b2, vi 4, vi 2, vr sa110_]) rfl ?_
  show S_ p e below T23 m 37 #[vr s_, vr b2, vi 4, vi 2, vr sa110_] [] t
  refine yG X23.here hx rfl 37 9 rfl (hb hby d8_37) ?_
  show S_ p e below T23 m 9 #[vr s_, vr b2, vi 4, vi 2, vr sa110_] [] t
  refine XS.iloadN X23.here hx rfl (hb hby d8_9) rfl ?_
  show S_ p e below T23 m 10 #[vr s_, vr b2, vi 4, vi 2, vr sa110_] [(ii 2)] t
  refine XS.iloadN X23.here hx rfl (hb hby d8_10) rfl ?_
  show S_ p e below T23 m 11 #[vr s_, vr b2, vi 4, vi 2, vr sa110_] [(ii 4), (ii 2)] t
  refine XS.icmpNo X23.here hx rfl (hb hby d8_11) rfl rfl ?_
  show S_ p e below T23 m 14 #[vr s_, vr b2, vi 4, vi 2, vr sa110_] [] t
  refine XS.aloadN X23.here hx rfl (hb hby d8_14) rfl rfl ?_
  show S_ p e below T23 m 15 #[vr s_, vr b2, vi 4, vi 2, vr sa110_] [(rr b2)] t
  refine XS.iloadN X23.here hx rfl (hb hby d8_15) rfl ?_
  show S_ p e below T23 m 16 #[vr s_, vr b2, vi 4, vi 2, vr sa110_] [(ii 2), (rr b2)] t
  refine ldA X23 hx hZ K25 p5 (v := (rr sa114_)) (by decide) (by decide) rfl rfl rfl (hb hby d8_16) ?_
  show S_ p e below T23 m 17 #[vr s_, vr b2, vi 4, vi 2, vr sa110_] [(rr sa114_)] t
  refine XS.astore X23.here hx rfl (hb hby d8_17) rfl rfl (l' := #[vr s_, vr b2, vi 4, vi 2, vr sa114_]) rfl ?_
  show S_ p e below T23 m 19 #[vr s_, vr b2, vi 4, vi 2, vr sa114_] [] t
  refine XS.aload X23.here hx rfl (hb hby d8_19) rfl rfl ?_
  exact k
 obtain ⟨T27, X27, e27, c27⟩ := kget X23 hx hZ hown (host := "") (Or.inl (w54 hw)) Via.refl K25 (ZF23_.ext o8.2) c26 rfl rfl (hb hby d8_21)
 have q28 := Nat.ne_of_lt (Nat.lt_of_lt_of_le ZE24_.lt (Nat.le_trans (Nat.le_of_eq O0.1) G4_))
 have c29 : Kt p e below T27 st0 (mkF m 25 #[vr s_, vr b2, vi 4, vi 2, vr sa114_] [(rr s_), (rr sa142_)]) := fun t k => by
  refine c27 t ?_
  show S_ p e below T27 m 24 #[vr s_, vr b2, vi 4, vi 2, vr sa114_] [(rr sa142_)] t
  refine XS.aloadN X27.here hx rfl (hb hby d8_24) rfl rfl ?_
  exact k
 obtain ⟨_, T30, L30, X30, hQ30, c30⟩ := kvirt X27 hx hZ hown (w56 hw) (w57 hw) (w59 hw) (w58 hw) (w60 hw) (w6 hw) (rm_seq_unchanged_error l Z a0 hw [] sa142_ sa148_ sk180_ s_ bs_ ks_ si162_ [(ii 117), (ii 110), (ii 99), (ii 104), (ii 97), (ii 110), (ii 103), (ii 101), (ii 100)] [(ii 101), (ii 114), (ii 114), (ii 111), (ii 114)] T1.heap n0 o8 (ZE24_.ext o8.2) (ZF25_.ext o8.2) (ZF26_.ext o8.2) (ZA38_.ext o8.2) (E0_.keep K4) (F1_.keep K4 nin0) (F2_.keep K4 nin0) (A3_.keep K4 nin0) ZS31_ sn165_ q28) e27 (ZE24_.ext o8.2) c29 hml pd_pLjava_lang_Object_rZ [(rr s_)] [] 0 (hb hby d8_25) rfl rfl rfl rfl rfl rfl
 obtain ⟨rfl, N31q, K32⟩ := hQ30
 have N31 := Fr.app N24 N31q
 have c33 : Kt p e below T30 st0 (mkF m 21 #[vr s_, vr b2, vi 4, vi 3, vr sa118_] [(rr sa118_)]) := fun t k => by
  refine c30 t ?_
  show S_ p e below T30 m 28 #[vr s_, vr b2, vi 4, vi 2, vr sa114_] [(ii 0)] t
  refine yI X30.here hx rfl 28 34 rfl (hb hby d8_28) rfl rfl ?_
  show S_ p e below T30 m 34 #[vr s_, vr b2, vi 4, vi 2, vr sa114_] [] t
  refine XS.iinc X30.here hx rfl (hb hby d8_34) rfl (l' := #[vr s_, vr b2, vi 4, vi 3, vr sa114_]) rfl ?_
  show S_ p e below T30 m 37 #[vr s_, vr b2, vi 4, vi 3, vr sa114_] [] t
  refine yG X30.here hx rfl 37 9 rfl (hb hby d8_37) ?_
  show S_ p e below T30 m 9 #[vr s_, vr b2, vi 4, vi 3, vr sa114_] [] t
  refine XS.iloadN X30.here hx rfl (hb hby d8_9) rfl ?_
  show S_ p e below T30 m 10 #[vr s_, vr b2, vi 4, vi 3, vr sa114_] [(ii 3)] t
  refine XS.iloadN X30.here hx rfl (hb hby d8_10) rfl ?_
  show S_ p e below T30 m 11 #[vr s_, vr b2, vi 4, vi 3, vr sa114_] [(ii 4), (ii 3)] t
  refine XS.icmpNo X30.here hx rfl (hb hby d8_11) rfl rfl ?_
  show S_ p e below T30 m 14 #[vr s_, vr b2, vi 4, vi 3, vr sa114_] [] t
  refine XS.aloadN X30.here hx rfl (hb hby d8_14) rfl rfl ?_
  show S_ p e below T30 m 15 #[vr s_, vr b2, vi 4, vi 3, vr sa114_] [(rr b2)] t
  refine XS.iloadN X30.here hx rfl (hb hby d8_15) rfl ?_
  show S_ p e below T30 m 16 #[vr s_, vr b2, vi 4, vi 3, vr sa114_] [(ii 3), (rr b2)] t
  refine ldA X30 hx hZ K32 p5 (v := (rr sa118_)) (by decide) (by decide) rfl rfl rfl (hb hby d8_16) ?_
  show S_ p e below T30 m 17 #[vr s_, vr b2, vi 4, vi 3, vr sa114_] [(rr sa118_)] t
  refine XS.astore X30.here hx rfl (hb hby d8_17) rfl rfl (l' := #[vr s_, vr b2, vi 4, vi 3, vr sa118_]) rfl ?_
  show S_ p e below T30 m 19 #[vr s_, vr b2, vi 4, vi 3, vr sa118_] [] t
  refine XS.aload X30.here hx rfl (hb hby d8_19) rfl rfl ?_
  exact k
 obtain ⟨T34, X34, e34, c34⟩ := kget X30 hx hZ hown (host := "") (Or.inl (w54 hw)) Via.refl K32 (ZF27_.ext o8.2) c33 rfl rfl (hb hby d8_21)
 have q35 := Nat.ne_of_lt (Nat.lt_of_lt_of_le ZE28_.lt (Nat.le_trans (Nat.le_of_eq O0.1) G4_))
 have c36 : Kt p e below T34 st0 (mkF m 25 #[vr s_, vr b2, vi 4, vi 3, vr sa118_] [(rr s_), (rr sa152_)]) := fun t k => by
  refine c34 t ?_
  show S_ p e below T34 m 24 #[vr s_, vr b2, vi 4, vi 3, vr sa118_] [(rr sa152_)] t
  refine XS.aloadN X34.here hx rfl (hb hby d8_24) rfl rfl ?_
  exact k
 obtain ⟨_, T37, L37, X37, hQ37, c37⟩ := kvirt X34 hx hZ hown (w56 hw) (w57 hw) (w59 hw) (w58 hw) (w60 hw) (w6 hw) (rm_seq_error l Z a0 hw [] sa152_ sa158_ sk183_ s_ bs_ ks_ si162_ T1.heap n0 o8 (ZE28_.ext o8.2) (ZF29_.ext o8.2) (ZF30_.ext o8.2) (ZA39_.ext o8.2) (E0_.keep K4) (F1_.keep K4 nin0) (F2_.keep K4 nin0) (A3_.keep K4 nin0) ZS31_ sn165_ q35) e34 (ZE28_.ext o8.2) c36 hml pd_pLjava_lang_Object_rZ [(rr s_)] [] 0 (hb hby d8_25) rfl rfl rfl rfl rfl rfl
 obtain ⟨rfl, N38q, K39⟩ := hQ37
 have N38 := Fr.app N31 N38q
 obtain ⟨fs, hr, hrun, hended, hW, hsame⟩ := X37.leave (v := some (rr sa118_)) (fun h => by rw [Bd.returns] at h; cases h)
 refine ⟨_, _, c37 _ ?_, hrun, hended, _, _, rfl, ?_, ⟨_, rfl⟩, hW, hsame.mono (by decide) (by decide)⟩
 ·show S_ p e below T37 m 28 #[vr s_, vr b2, vi 4, vi 3, vr sa118_] [(ii 1)] _
  refine XS.ifNo X37.here hx rfl (hb hby d8_28) rfl rfl ?_
  show S_ p e below T37 m 31 #[vr s_, vr b2, vi 4, vi 3, vr sa118_] [] _
  refine XS.aload X37.here hx rfl (hb hby d8_31) rfl rfl ?_
  show S_ p e below T37 m 33 #[vr s_, vr b2, vi 4, vi 3, vr sa118_] [(rr sa118_)] _
  exact retOut X37 hx Bd.returns rfl (Or.inr (Or.inr (Or.inr (Or.inr ⟨rfl, rfl, rfl⟩)))) (hb hby d8_33) hr
 ·show Q_ofLabel_error Z s_ bs_ ks_ sa101_ sa105_ sa110_ sa114_ sa118_ sa122_ sa128_ sa132_ sa138_ sa142_ sa148_ sa152_ sa158_ si162_ sv167_ sk171_ sk174_ sk177_ sk180_ sk183_ h0 n0 _ T37.heap _
  rw [K39]
  exact ⟨rfl, N38, kp9⟩
theorem d9_0 : decode prog_9_method_4_code 0 = .ok (.aload_n 0, 1) := by decide +kernel
theorem d9_1 : decode prog_9_method_4_code 1 = .ok (.getfield 35, 3) := by decide +kernel
theorem d9_4 : decode prog_9_method_4_code 4 = .ok (.areturn, 1) := by decide +kernel
theorem ef_label (m : MethodId) (x_ : Addr) : entryFrame m #[(rr x_)] 1 = mkF m 0 #[vr x_] [] := by first | (simp [entryFrame, mkF, argsToLocals, Value.category]; done) | rfl
def Q_label (Z : State) (x_ : Addr) (y_ : Addr) (h0 : Heap) (n0 : Nat) (v : Option Value) (h : Heap) (L : List Loc) : Prop := v = some (rr y_) ∧ Fr n0 L ∧ h = h0
set_option maxRecDepth 65536 in
set_option maxHeartbeats 40000000 in
theorem rm_label (l : Launch) (Z : State) (a0 : Array Value) (hw : HW Z a0) (ws : List Jvm.Cond) (x_ : Addr) (y_ : Addr) (h0 : Heap) (n0 : Nat) (O0 : Old Z n0 h0) (F0_ : Fld Z h0 x_ nm0 "label" nm7 (rr y_)) :
  MFP l Z (⟨nm0, "label", "()Ljava/lang/String;"⟩ : MethodName) prog_9_method_4_code 1 (some (.object nm1)) ({ frames := 0, cells := 0, slots := 0, locals := 0 } : Room) ws #[(rr x_)] h0 (Q_label Z x_ y_ h0 n0) := by
 refine MetFree.of_bodySF (plainFor_of_name pn_com_example_elvina_elvina_monitor_Outcome) hisR ?_
 intro p e s m args below meth c s₁ Bd hml0 hP hK
 obtain ⟨rfl, hZ, hh⟩ := hP
 have hx := Bd.exec
 have hby := Bd.bytes
 have hml : c.maxLocals = 1 := hml0
 have hown : s.vm.findClass nm0 = some m.cls := findClass_of_methodNamed Bd.named
 have hnm := (name_of_methodNamed Bd.named Bd.method).1
 have X0 : Stand p l e ({ frames := 0, cells := 0, slots := 0, locals := 0 } : Room) s m #[(rr x_)] below meth c s₁ [] 0 0 := Stand.of_body Bd
 have e0 : s₁.heap = h0 := by rw [← hh, Bd.state]; rfl
 have N0 := Fr.nil n0
 have kp0 : Keep h0 h0 [] := Keep.refl _ _
 have c0 : ∀ t, S_ p e below s₁ m 0 #[vr x_] [] t → Steps p.tables e below (s₁.setTop (entryFrame m #[(rr x_)] 1)) t := fun t k => castTop (ef_label m x_) k
 generalize s₁.setTop (entryFrame m #[(rr x_)] 1) = st0 at c0 ⊢
 replace c0 : Kt p e below s₁ st0 (mkF m 0 #[vr x_] []) := c0
 have c1 : Kt p e below s₁ st0 (mkF m 1 #[vr x_] [(rr x_)]) := fun t k => by
  refine c0 t ?_
  show S_ p e below s₁ m 0 #[vr x_] [] t
  refine XS.aloadN X0.here hx rfl (hb hby d9_0) rfl rfl ?_
  exact k
 obtain ⟨T2, X2, e2, c2⟩ := kget X0 hx hZ hown (host := "") (Or.inl (w54 hw)) Via.refl e0 F0_ c1 rfl rfl (hb hby d9_1)
 obtain ⟨fs, hr, hrun, hended, hW, hsame⟩ := X2.leave (v := some (rr y_)) (fun h => by rw [Bd.returns] at h; cases h)
 refine ⟨_, _, c2 _ ?_, hrun, hended, _, _, rfl, ?_, ⟨_, rfl⟩, hW, hsame.mono (by decide) (by decide)⟩
 ·show S_ p e below T2 m 4 #[vr x_] [(rr y_)] _
  exact retOut X2 hx Bd.returns rfl (Or.inr (Or.inr (Or.inr (Or.inr ⟨rfl, rfl, rfl⟩)))) (hb hby d9_4) hr
 ·show Q_label Z x_ y_ h0 n0 _ T2.heap _
  rw [e2]
  exact ⟨rfl, N0, rfl⟩
theorem pn_com_example_elvina_elvina_monitor_OutcomeOfLabelPinLaw : plainName nm5 = true := by first | (simp [plainName, overriddenIn]; done) | decide +kernel
theorem pd_pACrV : parseMethodDescriptor "([C)V" = some ⟨[(.array .char)], none⟩ := by decide +kernel
theorem pd_pLjava_lang_String_rLcom_example_elvina_elvina_monitor_Outcome_ : parseMethodDescriptor nm8 = some ⟨[(.object nm1)], some (.object nm0)⟩ := by decide +kernel
theorem pd_prLjava_lang_String_ : parseMethodDescriptor "()Ljava/lang/String;" = some ⟨[], some (.object nm1)⟩ := by decide +kernel
theorem ef_law (m : MethodId) (k_ : Int32) : entryFrame m #[(.int k_)] maxLocals = mkF m 0 #[vi k_, u_, u_, u_, u_, u_] [] := by first | (simp [entryFrame, mkF, argsToLocals, Value.category, maxLocals]; done) | rfl
def Q_law (Z : State) (k_ : Int32) (sa101_ : Addr) (sa105_ : Addr) (sa110_ : Addr) (sa114_ : Addr) (sa118_ : Addr) (sa122_ : Addr) (sa128_ : Addr) (sa132_ : Addr) (sa138_ : Addr) (sa142_ : Addr) (sa148_ : Addr) (sa152_ : Addr) (sa158_ : Addr) (si162_ : Int32) (sv167_ : Value) (sk171_ : ClassId) (sk174_ : ClassId) (sk177_ : ClassId) (sk180_ : ClassId) (sk183_ : ClassId) (h0 : Heap) (n0 : Nat) (v : Option Value) (h : Heap) (L : List Loc) : Prop := v = some (ii 1) ∧ Fr n0 L ∧ Keep h0 h []
set_option maxRecDepth 65536 in
set_option maxHeartbeats 40000000 in
theorem rm_law (l : Launch) (Z : State) (a0 : Array Value) (hw : HW Z a0) (ws : List Jvm.Cond) (k_ : Int32) (sa101_ : Addr) (sa105_ : Addr) (sa110_ : Addr) (sa114_ : Addr) (sa118_ : Addr) (sa122_ : Addr) (sa128_ : Addr) (sa132_ : Addr) (sa138_ : Addr) (sa142_ : Addr) (sa148_ : Addr) (sa152_ : Addr) (sa158_ : Addr) (si162_ : Int32) (sv167_ : Value) (sk171_ : ClassId) (sk174_ : ClassId) (sk177_ : ClassId) (sk180_ : ClassId) (sk183_ : ClassId) (h0 : Heap) (n0 : Nat) (O0 : Old Z n0 h0) (ZS0_ : Sta Z Z.heap nm0 "NEW" nm2 (rr sa101_)) (ZE1_ : Exa Z Z.heap sa101_ nm0) (ZS2_ : Sta Z Z.heap nm0 "$VALUES" nm3 (rr sa105_)) (ZE3_ : Exa Z Z.heap sa105_ nm3) (ZS4_ : Sta Z Z.heap nm0 "CHANGED" nm2 (rr sa110_)) (ZE5_ : Exa Z Z.heap sa110_ nm0) (ZS6_ : Sta Z Z.heap nm0 "UNCHANGED" nm2 (rr sa114_)) (ZE7_ : Exa Z Z.heap sa114_ nm0) (ZS8_ : Sta Z Z.heap nm0 "ERROR" nm2 (rr sa118_)) (ZE9_ : Exa Z Z.heap sa118_ nm0) (ZF10_ : Fld Z Z.heap sa101_ nm0 "label" nm7 (rr sa122_)) (ZE11_ : Exa Z Z.heap sa122_ nm1) (ZF12_ : Fld Z Z.heap sa122_ nm1 "coder" "B" (ii 0)) (ZF13_ : Fld Z Z.heap sa122_ nm1 "value" "[B" (rr sa128_)) (ZF14_ : Fld Z Z.heap sa110_ nm0 "label" nm7 (rr sa132_)) (ZE15_ : Exa Z Z.heap sa132_ nm1) (ZF16_ : Fld Z Z.heap sa132_ nm1 "coder" "B" (ii 0)) (ZF17_ : Fld Z Z.heap sa132_ nm1 "value" "[B" (rr sa138_)) (ZF18_ : Fld Z Z.heap sa114_ nm0 "label" nm7 (rr sa142_)) (ZE19_ : Exa Z Z.heap sa142_ nm1) (ZF20_ : Fld Z Z.heap sa142_ nm1 "coder" "B" (ii 0)) (ZF21_ : Fld Z Z.heap sa142_ nm1 "value" "[B" (rr sa148_)) (ZF22_ : Fld Z Z.heap sa118_ nm0 "label" nm7 (rr sa152_)) (ZE23_ : Exa Z Z.heap sa152_ nm1) (ZF24_ : Fld Z Z.heap sa152_ nm1 "coder" "B" (ii 0)) (ZF25_ : Fld Z Z.heap sa152_ nm1 "value" "[B" (rr sa158_)) (ZS26_ : Sta Z Z.heap nm1 "COMPACT_STRINGS" "Z" (.int si162_)) (sn165_ : ¬ (si162_ = (0 : Int32))) (sv167_r : sv167_.isRef = true) (ZS29_ : Sta Z Z.heap "jdk/internal/util/Preconditions" "SIOOBE_FORMATTER" "Ljava/util/function/BiFunction;" sv167_) (ZA30_ : Arv Z Z.heap sa105_ sk171_ (.object nm0) (4 : Int32) [(rr sa101_), (rr sa110_), (rr sa114_), (rr sa118_)] .null) (ZA31_ : Arv Z Z.heap sa128_ sk174_ .byte (3 : Int32) [(ii 110), (ii 101), (ii 119)] (ii 0)) (ZA32_ : Arv Z Z.heap sa138_ sk177_ .byte (7 : Int32) [(ii 99), (ii 104), (ii 97), (ii 110), (ii 103), (ii 101), (ii 100)] (ii 0)) (ZA33_ : Arv Z Z.heap sa148_ sk180_ .byte (9 : Int32) [(ii 117), (ii 110), (ii 99), (ii 104), (ii 97), (ii 110), (ii 103), (ii 101), (ii 100)] (ii 0)) (ZA34_ : Arv Z Z.heap sa158_ sk183_ .byte (5 : Int32) [(ii 101), (ii 114), (ii 114), (ii 111), (ii 114)] (ii 0)) :
  MFP l Z x code maxLocals ret room_1 ws #[(.int k_)] h0 (Q_law Z k_ sa101_ sa105_ sa110_ sa114_ sa118_ sa122_ sa128_ sa132_ sa138_ sa142_ sa148_ sa152_ sa158_ si162_ sv167_ sk171_ sk174_ sk177_ sk180_ sk183_ h0 n0) := by
 refine MetFree.of_bodySF (plainFor_of_name pn_com_example_elvina_elvina_monitor_OutcomeOfLabelPinLaw) hisR ?_
 intro p e s m args below meth c s₁ Bd hml0 hP hK
 obtain ⟨rfl, hZ, hh⟩ := hP
 have hx := Bd.exec
 have hby := Bd.bytes
 have hml : c.maxLocals = 6 := hml0
 have hown : s.vm.findClass nm5 = some m.cls := findClass_of_methodNamed Bd.named
 have hnm := (name_of_methodNamed Bd.named Bd.method).1
 have X0 : Stand p l e room_1 s m #[(.int k_)] below meth c s₁ [] 0 0 := Stand.of_body Bd
 have e0 : s₁.heap = h0 := by rw [← hh, Bd.state]; rfl
 have N0 := Fr.nil n0
 have kp0 : Keep h0 h0 [] := Keep.refl _ _
 have c0 : ∀ t, S_ p e below s₁ m 0 #[vi k_, u_, u_, u_, u_, u_] [] t → Steps p.tables e below (s₁.setTop (entryFrame m #[(.int k_)] maxLocals)) t := fun t k => castTop (ef_law m k_) k
 generalize s₁.setTop (entryFrame m #[(.int k_)] maxLocals) = st0 at c0 ⊢
 replace c0 : Kt p e below s₁ st0 (mkF m 0 #[vi k_, u_, u_, u_, u_, u_] []) := c0
 have c1 : Kt p e below s₁ st0 (mkF m 5 #[vi k_, .val (.int (k_ &&& (3 : Int32))), u_, u_, u_, u_] [(.int (k_ &&& (3 : Int32)))]) := fun t k => by
  refine c0 t ?_
  show S_ p e below s₁ m 0 #[vi k_, u_, u_, u_, u_, u_] [] t
  refine XS.iloadN X0.here hx rfl (hb hby at_0) rfl ?_
  show S_ p e below s₁ m 1 #[vi k_, u_, u_, u_, u_, u_] [(.int k_)] t
  refine XS.iconst X0.here hx rfl (hb hby at_1) ?_
  show S_ p e below s₁ m 2 #[vi k_, u_, u_, u_, u_, u_] [(ii 3), (.int k_)] t
  refine XS.iand X0.here hx rfl (hb hby at_2) rfl ?_
  show S_ p e below s₁ m 3 #[vi k_, u_, u_, u_, u_, u_] [(.int (k_ &&& (3 : Int32)))] t
  refine XS.istoreN X0.here hx rfl (hb hby at_3) rfl (l' := #[vi k_, .val (.int (k_ &&& (3 : Int32))), u_, u_, u_, u_]) rfl ?_
  show S_ p e below s₁ m 4 #[vi k_, .val (.int (k_ &&& (3 : Int32))), u_, u_, u_, u_] [] t
  refine XS.iloadN X0.here hx rfl (hb hby at_4) rfl ?_
  exact k
 by_cases hc2 : (k_ &&& (3 : Int32)) = (0 : Int32)
 ·have c3 : Kt p e below s₁ st0 (mkF m 8 #[vi k_, .val (.int (k_ &&& (3 : Int32))), u_, u_, u_, u_] []) := fun t k => by
   refine c1 t ?_
   show S_ p e below s₁ m 5 #[vi k_, .val (.int (k_ &&& (3 : Int32))), u_, u_, u_, u_] [(.int (k_ &&& (3 : Int32)))] t
   refine XS.ifNo X0.here hx rfl (hb hby at_5) rfl ((if0 _ _).trans (teq hc2).2) ?_
   exact k
  obtain ⟨T4, X4, e4, c4⟩ := kgetS X0 hx hZ hown (host := "") (Or.inl (w0 hw)) Via.refl e0 (ZS0_.ext O0.2) c3 rfl (hb hby at_8)
  have c5 : Kt p e below T4 st0 (mkF m 13 #[vi k_, .val (.int (k_ &&& (3 : Int32))), vr sa101_, u_, u_, u_] [(ii 3)]) := fun t k => by
   refine c4 t ?_
   show S_ p e below T4 m 11 #[vi k_, .val (.int (k_ &&& (3 : Int32))), u_, u_, u_, u_] [(rr sa101_)] t
   refine XS.astoreN X4.here hx rfl (hb hby at_11) rfl rfl (l' := #[vi k_, .val (.int (k_ &&& (3 : Int32))), vr sa101_, u_, u_, u_]) rfl ?_
   show S_ p e below T4 m 12 #[vi k_, .val (.int (k_ &&& (3 : Int32))), vr sa101_, u_, u_, u_] [] t
   refine XS.iconst X4.here hx rfl (hb hby at_12) ?_
   exact k
  obtain ⟨b6, T6, h6, k6, z6, g6, X6, e6, E6, o7, A6, c6⟩ := knewP (aty := .char) X4 hx hZ (w3 hw) e4 c5 rfl (hb hby at_13) rfl (by decide) 3 (by decide) (by decide) (by decide) (by decide) O0
  have kp9 := kp0.ext E6
  have z10 := Nat.le_trans kp0.1 z6
  have f8 : Arv Z h6 b6 k6 .char (3 : Int32) [(ii 0), (ii 0), (ii 0)] (ii 0) := A6.pad (pad_rep [] (ii 0) 3)
  have c11 : Kt p e below T6 st0 (mkF m 19 #[vi k_, .val (.int (k_ &&& (3 : Int32))), vr sa101_, u_, u_, u_] [(ii 110), (ii 0), (rr b6), (rr b6)]) := fun t k => by
   refine c6 t ?_
   show S_ p e below T6 m 15 #[vi k_, .val (.int (k_ &&& (3 : Int32))), vr sa101_, u_, u_, u_] [(rr b6)] t
   refine XS.dup X6.here hx rfl (hb hby at_15) rfl rfl ?_
   show S_ p e below T6 m 16 #[vi k_, .val (.int (k_ &&& (3 : Int32))), vr sa101_, u_, u_, u_] [(rr b6), (rr b6)] t
   refine XS.iconst X6.here hx rfl (hb hby at_16) ?_
   show S_ p e below T6 m 17 #[vi k_, .val (.int (k_ &&& (3 : Int32))), vr sa101_, u_, u_, u_] [(ii 0), (rr b6), (rr b6)] t
   refine XS.bipush X6.here hx rfl (hb hby at_17) ?_
   exact k
  obtain ⟨T12, h12, X12, e12, W12, f15, o13, N14, c12⟩ := kstC X6 hx hZ e6 f8 (j := (0 : Int32)) (by decide) (by decide) 0 rfl (Nat.le_of_ble_eq_true rfl) c11 rfl rfl (hb hby at_19) o7 N0 g6
  have f16 : Arv Z h12 b6 k6 .char (3 : Int32) [(ii 110), (ii 0), (ii 0)] (ii 0) := f15
  have kp17 := kp9.wr W12 (Or.inr z10)
  have c18 : Kt p e below T12 st0 (mkF m 24 #[vi k_, .val (.int (k_ &&& (3 : Int32))), vr sa101_, u_, u_, u_] [(ii 101), (ii 1), (rr b6), (rr b6)]) := fun t k => by
   refine c12 t ?_
   show S_ p e below T12 m 20 #[vi k_, .val (.int (k_ &&& (3 : Int32))), vr sa101_, u_, u_, u_] [(rr b6)] t
   refine XS.dup X12.here hx rfl (hb hby at_20) rfl rfl ?_
   show S_ p e below T12 m 21 #[vi k_, .val (.int (k_ &&& (3 : Int32))), vr sa101_, u_, u_, u_] [(rr b6), (rr b6)] t
   refine XS.iconst X12.here hx rfl (hb hby at_21) ?_
   show S_ p e below T12 m 22 #[vi k_, .val (.int (k_ &&& (3 : Int32))), vr sa101_, u_, u_, u_] [(ii 1), (rr b6), (rr b6)] t
   refine XS.bipush X12.here hx rfl (hb hby at_22) ?_
   exact k
  obtain ⟨T19, h19, X19, e19, W19, f22, o20, N21, c19⟩ := kstC X12 hx hZ e12 f16 (j := (1 : Int32)) (by decide) (by decide) 1 rfl (Nat.le_of_ble_eq_true rfl) c18 rfl rfl (hb hby at_24) o13 N14 g6
  have f23 : Arv Z h19 b6 k6 .char (3 : Int32) [(ii 110), (ii 101), (ii 0)] (ii 0) := f22
  have kp24 := kp17.wr W19 (Or.inr z10)
  have c25 : Kt p e below T19 st0 (mkF m 29 #[vi k_, .val (.int (k_ &&& (3 : Int32))), vr sa101_, u_, u_, u_] [(ii 119), (ii 2), (rr b6), (rr b6)]) := fun t k => by
   refine c19 t ?_
   show S_ p e below T19 m 25 #[vi k_, .val (.int (k_ &&& (3 : Int32))), vr sa101_, u_, u_, u_] [(rr b6)] t
   refine XS.dup X19.here hx rfl (hb hby at_25) rfl rfl ?_
   show S_ p e below T19 m 26 #[vi k_, .val (.int (k_ &&& (3 : Int32))), vr sa101_, u_, u_, u_] [(rr b6), (rr b6)] t
   refine XS.iconst X19.here hx rfl (hb hby at_26) ?_
   show S_ p e below T19 m 27 #[vi k_, .val (.int (k_ &&& (3 : Int32))), vr sa101_, u_, u_, u_] [(ii 2), (rr b6), (rr b6)] t
   refine XS.bipush X19.here hx rfl (hb hby at_27) ?_
   exact k
  obtain ⟨T26, h26, X26, e26, W26, f29, o27, N28, c26⟩ := kstC X19 hx hZ e19 f23 (j := (2 : Int32)) (by decide) (by decide) 2 rfl (Nat.le_of_ble_eq_true rfl) c25 rfl rfl (hb hby at_29) o20 N21 g6
  have f30 : Arv Z h26 b6 k6 .char (3 : Int32) [(ii 110), (ii 101), (ii 119)] (ii 0) := f29
  have kp31 := kp24.wr W26 (Or.inr z10)
  have c32 : Kt p e below T26 st0 (mkF m 185 #[vi k_, .val (.int (k_ &&& (3 : Int32))), vr sa101_, vr b6, u_, u_] []) := fun t k => by
   refine c26 t ?_
   show S_ p e below T26 m 30 #[vi k_, .val (.int (k_ &&& (3 : Int32))), vr sa101_, u_, u_, u_] [(rr b6)] t
   refine XS.astoreN X26.here hx rfl (hb hby at_30) rfl rfl (l' := #[vi k_, .val (.int (k_ &&& (3 : Int32))), vr sa101_, vr b6, u_, u_]) rfl ?_
   show S_ p e below T26 m 31 #[vi k_, .val (.int (k_ &&& (3 : Int32))), vr sa101_, vr b6, u_, u_] [] t
   refine yG X26.here hx rfl 31 185 rfl (hb hby at_31) ?_
   exact k
  obtain ⟨b33, T33, h33, z33, g33, X33, e33, E33, o34, A33, D33, U33, c33⟩ := knew X26 hx hZ hown (w4 hw) (w5 hw) (w6 hw) e26 c32 rfl (hb hby at_185) (by decide) (by decide) o27
  have kp35 := kp31.ext E33
  have z36 := Nat.le_trans kp31.1 z33
  have c37 : Kt p e below T33 st0 (mkF m 190 #[vi k_, .val (.int (k_ &&& (3 : Int32))), vr sa101_, vr b6, u_, u_] [(rr b6), (rr b33), (rr b33)]) := fun t k => by
   refine c33 t ?_
   show S_ p e below T33 m 188 #[vi k_, .val (.int (k_ &&& (3 : Int32))), vr sa101_, vr b6, u_, u_] [(rr b33)] t
   refine XS.dup X33.here hx rfl (hb hby at_188) rfl rfl ?_
   show S_ p e below T33 m 189 #[vi k_, .val (.int (k_ &&& (3 : Int32))), vr sa101_, vr b6, u_, u_] [(rr b33), (rr b33)] t
   refine XS.aloadN X33.here hx rfl (hb hby at_189) rfl rfl ?_
   exact k
  obtain ⟨_, T38, L38, X38, hQ38, c38⟩ := kspec X33 hx hZ hown (w7 hw) (w8 hw) (w6 hw) (w9 hw) (rm_str1_new l Z a0 hw [] b33 b6 k6 si162_ h33 n0 o34 A33 (show Fld Z h33 b33 nm1 "value" "[B" .null from D33 (Or.inr (w32 hw)) (ty := (.array .byte)) (by decide)) (show Fld Z h33 b33 nm1 "coder" "B" (ii 0) from D33 (Or.inr (w30 hw)) (ty := .byte) (by decide)) g33 (f30.ext E33) ZS26_ sn165_) e33 c37 hml pd_pACrV b33 [(rr b6)] [(rr b33)] 1 (hb hby at_190) rfl rfl rfl rfl rfl rfl
  obtain ⟨rfl, N39q, K40, p41, p42, b43, k44, p45, p46, p47, p48⟩ := hQ38
  have N39 := Fr.app N28 N39q
  have o49 := o34.keep K40 (allS g33 all0)
  have kp50 := kp35.trans K40 (allS (Or.inr z36) all0)
  have z51 := Nat.le_trans kp35.1 p48
  have g52 := Nat.le_trans (Nat.le_trans (Nat.le_of_eq o34.1.symm) o34.2.1) p48
  have c53 : Kt p e below T38 st0 (mkF m 197 #[vi k_, .val (.int (k_ &&& (3 : Int32))), vr sa101_, vr b6, vr b33, u_] [(rr b33)]) := fun t k => by
   refine c38 t ?_
   show S_ p e below T38 m 193 #[vi k_, .val (.int (k_ &&& (3 : Int32))), vr sa101_, vr b6, u_, u_] [(rr b33)] t
   refine XS.astore X38.here hx rfl (hb hby at_193) rfl rfl (l' := #[vi k_, .val (.int (k_ &&& (3 : Int32))), vr sa101_, vr b6, vr b33, u_]) rfl ?_
   show S_ p e below T38 m 195 #[vi k_, .val (.int (k_ &&& (3 : Int32))), vr sa101_, vr b6, vr b33, u_] [] t
   refine XS.aload X38.here hx rfl (hb hby at_195) rfl rfl ?_
   exact k
  obtain ⟨_, T54, L54, X54, hQ54, c54⟩ := kstat X38 hx hZ hown (w33 hw) (w34 hw) (w1 hw) (w35 hw) (rm_ofLabel_new l Z a0 hw [] b33 b43 k44 sa101_ sa105_ sa110_ sa114_ sa118_ sa122_ sa128_ sa132_ sa138_ sa142_ sa148_ sa152_ sa158_ si162_ sv167_ sk171_ sk174_ sk177_ sk180_ sk183_ T38.heap n0 o49 p41 p42 p45 p46 g33 ZS0_ ZE1_ ZS2_ ZE3_ ZS4_ ZE5_ ZS6_ ZE7_ ZS8_ ZE9_ ZF10_ ZE11_ ZF12_ ZF13_ ZF14_ ZE15_ ZF16_ ZF17_ ZF18_ ZE19_ ZF20_ ZF21_ ZF22_ ZE23_ ZF24_ ZF25_ ZS26_ sn165_ sv167_r ZS29_ ZA30_ ZA31_ ZA32_ ZA33_ ZA34_) rfl c53 hml pd_pLjava_lang_String_rLcom_example_elvina_elvina_monitor_Outcome_ [(rr b33)] [] 0 (hb hby at_197) rfl rfl rfl rfl rfl rfl
  obtain ⟨rfl, N55q, K56⟩ := hQ54
  have N55 := Fr.app N39 N55q
  have o57 := o49.keep K56 all0
  have kp58 := kp50.trans K56 all0
  have c59 : Kt p e below T54 st0 (mkF m 209 #[vi k_, .val (.int (k_ &&& (3 : Int32))), vr sa101_, vr b6, vr b33, vr sa101_] [(rr sa101_)]) := fun t k => by
   refine c54 t ?_
   show S_ p e below T54 m 200 #[vi k_, .val (.int (k_ &&& (3 : Int32))), vr sa101_, vr b6, vr b33, u_] [(rr sa101_)] t
   refine XS.astore X54.here hx rfl (hb hby at_200) rfl rfl (l' := #[vi k_, .val (.int (k_ &&& (3 : Int32))), vr sa101_, vr b6, vr b33, vr sa101_]) rfl ?_
   show S_ p e below T54 m 202 #[vi k_, .val (.int (k_ &&& (3 : Int32))), vr sa101_, vr b6, vr b33, vr sa101_] [] t
   refine XS.aload X54.here hx rfl (hb hby at_202) rfl rfl ?_
   show S_ p e below T54 m 204 #[vi k_, .val (.int (k_ &&& (3 : Int32))), vr sa101_, vr b6, vr b33, vr sa101_] [(rr sa101_)] t
   refine XS.aloadN X54.here hx rfl (hb hby at_204) rfl rfl ?_
   show S_ p e below T54 m 205 #[vi k_, .val (.int (k_ &&& (3 : Int32))), vr sa101_, vr b6, vr b33, vr sa101_] [(rr sa101_), (rr sa101_)] t
   refine Jvm.RoadKit.acmp (g := (mkF m 205 #[vi k_, .val (.int (k_ &&& (3 : Int32))), vr sa101_, vr b6, vr b33, vr sa101_] [(rr sa101_), (rr sa101_)])) X54 hx rfl rfl rfl (pc0 := 205) (pc' := 208) (same := true) rfl (hb hby at_205) rfl (decide_eq_true rfl) (by decide) (by decide) ?_
   show S_ p e below T54 m 208 #[vi k_, .val (.int (k_ &&& (3 : Int32))), vr sa101_, vr b6, vr b33, vr sa101_] [] t
   refine XS.aloadN X54.here hx rfl (hb hby at_208) rfl rfl ?_
   exact k
  obtain ⟨_, T60, L60, X60, hQ60, c60⟩ := kvirt X54 hx hZ hown (w66 hw) (w67 hw) (w69 hw) (w68 hw) (w70 hw) (w1 hw) (rm_label l Z a0 hw [] sa101_ sa122_ T54.heap n0 o57 (ZF10_.ext o57.2)) rfl (ZE1_.ext o57.2) c59 hml pd_prLjava_lang_String_ [] [] 0 (hb hby at_209) rfl rfl rfl rfl rfl rfl
  obtain ⟨rfl, N61q, K62⟩ := hQ60
  have N61 := Fr.app N55 N61q
  have q63 := Nat.ne_of_lt (Nat.lt_of_lt_of_le ZE11_.lt (Nat.le_trans (Nat.le_of_eq O0.1) g33))
  have c64 : Kt p e below T60 st0 (mkF m 214 #[vi k_, .val (.int (k_ &&& (3 : Int32))), vr sa101_, vr b6, vr b33, vr sa101_] [(rr b33), (rr sa122_)]) := fun t k => by
   refine c60 t ?_
   show S_ p e below T60 m 212 #[vi k_, .val (.int (k_ &&& (3 : Int32))), vr sa101_, vr b6, vr b33, vr sa101_] [(rr sa122_)] t
   refine XS.aload X60.here hx rfl (hb hby at_212) rfl rfl ?_
   exact k
  obtain ⟨_, T65, L65, X65, hQ65, c65⟩ := kvirt X60 hx hZ hown (w71 hw) (w57 hw) (w59 hw) (w58 hw) (w60 hw) (w6 hw) (rm_seq_new l Z a0 hw [] sa122_ sa128_ sk174_ b33 b43 k44 si162_ T54.heap n0 o57 (ZE11_.ext o57.2) (ZF12_.ext o57.2) (ZF13_.ext o57.2) (ZA31_.ext o57.2) (p41.keep K56) (p42.keep K56 nin0) (p45.keep K56 nin0) (p46.keep K56 nin0) ZS26_ sn165_ q63) K62 (ZE11_.ext o57.2) c64 hml pd_pLjava_lang_Object_rZ [(rr b33)] [] 0 (hb hby at_214) rfl rfl rfl rfl rfl rfl
  obtain ⟨rfl, N66q, K67⟩ := hQ65
  have N66 := Fr.app N61 N66q
  obtain ⟨fs, hr, hrun, hended, hW, hsame⟩ := X65.leave (v := some (ii 1)) (fun h => by rw [Bd.returns] at h; cases h)
  refine ⟨_, _, c65 _ ?_, hrun, hended, _, _, rfl, ?_, ⟨_, rfl⟩, hW, hsame.mono (by decide) (by decide)⟩
  ·show S_ p e below T65 m 217 #[vi k_, .val (.int (k_ &&& (3 : Int32))), vr sa101_, vr b6, vr b33, vr sa101_] [(ii 1)] _
   refine XS.ifNo X65.here hx rfl (hb hby at_217) rfl rfl ?_
   show S_ p e below T65 m 220 #[vi k_, .val (.int (k_ &&& (3 : Int32))), vr sa101_, vr b6, vr b33, vr sa101_] [] _
   refine XS.iconst X65.here hx rfl (hb hby at_220) ?_
   show S_ p e below T65 m 221 #[vi k_, .val (.int (k_ &&& (3 : Int32))), vr sa101_, vr b6, vr b33, vr sa101_] [(ii 1)] _
   refine yG X65.here hx rfl 221 225 rfl (hb hby at_221) ?_
   show S_ p e below T65 m 225 #[vi k_, .val (.int (k_ &&& (3 : Int32))), vr sa101_, vr b6, vr b33, vr sa101_] [(ii 1)] _
   exact retN X65 hx (t := .boolean) Bd.returns (by simp) (hb hby at_225) hr
  ·show Q_law Z k_ sa101_ sa105_ sa110_ sa114_ sa118_ sa122_ sa128_ sa132_ sa138_ sa142_ sa148_ sa152_ sa158_ si162_ sv167_ sk171_ sk174_ sk177_ sk180_ sk183_ h0 n0 _ T65.heap _
   rw [K67]
   exact ⟨rfl, N66, kp58⟩
 ·have c68 : Kt p e below s₁ st0 (mkF m 36 #[vi k_, .val (.int (k_ &&& (3 : Int32))), u_, u_, u_, u_] [(ii 1), (.int (k_ &&& (3 : Int32)))]) := fun t k => by
   refine c1 t ?_
   show S_ p e below s₁ m 5 #[vi k_, .val (.int (k_ &&& (3 : Int32))), u_, u_, u_, u_] [(.int (k_ &&& (3 : Int32)))] t
   refine yI X0.here hx rfl 5 34 rfl (hb hby at_5) rfl ((if0 _ _).trans (feq hc2).2) ?_
   show S_ p e below s₁ m 34 #[vi k_, .val (.int (k_ &&& (3 : Int32))), u_, u_, u_, u_] [] t
   refine XS.iloadN X0.here hx rfl (hb hby at_34) rfl ?_
   show S_ p e below s₁ m 35 #[vi k_, .val (.int (k_ &&& (3 : Int32))), u_, u_, u_, u_] [(.int (k_ &&& (3 : Int32)))] t
   refine XS.iconst X0.here hx rfl (hb hby at_35) ?_
   exact k
  by_cases hc69 : (k_ &&& (3 : Int32)) = (1 : Int32)
  ·have c70 : Kt p e below s₁ st0 (mkF m 39 #[vi k_, .val (.int (k_ &&& (3 : Int32))), u_, u_, u_, u_] []) := fun t k => by
    refine c68 t ?_
    show S_ p e below s₁ m 36 #[vi k_, .val (.int (k_ &&& (3 : Int32))), u_, u_, u_, u_] [(ii 1), (.int (k_ &&& (3 : Int32)))] t
    refine XS.icmpNo X0.here hx rfl (hb hby at_36) rfl (teq hc69).2 ?_
    exact k
   obtain ⟨T71, X71, e71, c71⟩ := kgetS X0 hx hZ hown (host := "") (Or.inl (w74 hw)) Via.refl e0 (ZS4_.ext O0.2) c70 rfl (hb hby at_39)
   have c72 : Kt p e below T71 st0 (mkF m 45 #[vi k_, .val (.int (k_ &&& (3 : Int32))), vr sa110_, u_, u_, u_] [(ii 7)]) := fun t k => by
    refine c71 t ?_
    show S_ p e below T71 m 42 #[vi k_, .val (.int (k_ &&& (3 : Int32))), u_, u_, u_, u_] [(rr sa110_)] t
    refine XS.astoreN X71.here hx rfl (hb hby at_42) rfl rfl (l' := #[vi k_, .val (.int (k_ &&& (3 : Int32))), vr sa110_, u_, u_, u_]) rfl ?_
    show S_ p e below T71 m 43 #[vi k_, .val (.int (k_ &&& (3 : Int32))), vr sa110_, u_, u_, u_] [] t
    refine XS.bipush X71.here hx rfl (hb hby at_43) ?_
    exact k
   obtain ⟨b73, T73, h73, k73, z73, g73, X73, e73, E73, o74, A73, c73⟩ := knewP (aty := .char) X71 hx hZ (w3 hw) e71 c72 rfl (hb hby at_45) rfl (by decide) 7 (by decide) (by decide) (by decide) (by decide) O0
   have kp76 := kp0.ext E73
   have z77 := Nat.le_trans kp0.1 z73
   have f75 : Arv Z h73 b73 k73 .char (7 : Int32) [(ii 0), (ii 0), (ii 0), (ii 0), (ii 0), (ii 0), (ii 0)] (ii 0) := A73.pad (pad_rep [] (ii 0) 7)
   have c78 : Kt p e below T73 st0 (mkF m 51 #[vi k_, .val (.int (k_ &&& (3 : Int32))), vr sa110_, u_, u_, u_] [(ii 99), (ii 0), (rr b73), (rr b73)]) := fun t k => by
    refine c73 t ?_
    show S_ p e below T73 m 47 #[vi k_, .val (.int (k_ &&& (3 : Int32))), vr sa110_, u_, u_, u_] [(rr b73)] t
    refine XS.dup X73.here hx rfl (hb hby at_47) rfl rfl ?_
    show S_ p e below T73 m 48 #[vi k_, .val (.int (k_ &&& (3 : Int32))), vr sa110_, u_, u_, u_] [(rr b73), (rr b73)] t
    refine XS.iconst X73.here hx rfl (hb hby at_48) ?_
    show S_ p e below T73 m 49 #[vi k_, .val (.int (k_ &&& (3 : Int32))), vr sa110_, u_, u_, u_] [(ii 0), (rr b73), (rr b73)] t
    refine XS.bipush X73.here hx rfl (hb hby at_49) ?_
    exact k
   obtain ⟨T79, h79, X79, e79, W79, f82, o80, N81, c79⟩ := kstC X73 hx hZ e73 f75 (j := (0 : Int32)) (by decide) (by decide) 0 rfl (Nat.le_of_ble_eq_true rfl) c78 rfl rfl (hb hby at_51) o74 N0 g73
   have f83 : Arv Z h79 b73 k73 .char (7 : Int32) [(ii 99), (ii 0), (ii 0), (ii 0), (ii 0), (ii 0), (ii 0)] (ii 0) := f82
   have kp84 := kp76.wr W79 (Or.inr z77)
   have c85 : Kt p e below T79 st0 (mkF m 56 #[vi k_, .val (.int (k_ &&& (3 : Int32))), vr sa110_, u_, u_, u_] [(ii 104), (ii 1), (rr b73), (rr b73)]) := fun t k => by
    refine c79 t ?_
    show S_ p e below T79 m 52 #[vi k_, .val (.int (k_ &&& (3 : Int32))), vr sa110_, u_, u_, u_] [(rr b73)] t
    refine XS.dup X79.here hx rfl (hb hby at_52) rfl rfl ?_
    show S_ p e below T79 m 53 #[vi k_, .val (.int (k_ &&& (3 : Int32))), vr sa110_, u_, u_, u_] [(rr b73), (rr b73)] t
    refine XS.iconst X79.here hx rfl (hb hby at_53) ?_
    show S_ p e below T79 m 54 #[vi k_, .val (.int (k_ &&& (3 : Int32))), vr sa110_, u_, u_, u_] [(ii 1), (rr b73), (rr b73)] t
    refine XS.bipush X79.here hx rfl (hb hby at_54) ?_
    exact k
   obtain ⟨T86, h86, X86, e86, W86, f89, o87, N88, c86⟩ := kstC X79 hx hZ e79 f83 (j := (1 : Int32)) (by decide) (by decide) 1 rfl (Nat.le_of_ble_eq_true rfl) c85 rfl rfl (hb hby at_56) o80 N81 g73
   have f90 : Arv Z h86 b73 k73 .char (7 : Int32) [(ii 99), (ii 104), (ii 0), (ii 0), (ii 0), (ii 0), (ii 0)] (ii 0) := f89
   have kp91 := kp84.wr W86 (Or.inr z77)
   have c92 : Kt p e below T86 st0 (mkF m 61 #[vi k_, .val (.int (k_ &&& (3 : Int32))), vr sa110_, u_, u_, u_] [(ii 97), (ii 2), (rr b73), (rr b73)]) := fun t k => by
    refine c86 t ?_
    show S_ p e below T86 m 57 #[vi k_, .val (.int (k_ &&& (3 : Int32))), vr sa110_, u_, u_, u_] [(rr b73)] t
    refine XS.dup X86.here hx rfl (hb hby at_57) rfl rfl ?_
    show S_ p e below T86 m 58 #[vi k_, .val (.int (k_ &&& (3 : Int32))), vr sa110_, u_, u_, u_] [(rr b73), (rr b73)] t
    refine XS.iconst X86.here hx rfl (hb hby at_58) ?_
    show S_ p e below T86 m 59 #[vi k_, .val (.int (k_ &&& (3 : Int32))), vr sa110_, u_, u_, u_] [(ii 2), (rr b73), (rr b73)] t
    refine XS.bipush X86.here hx rfl (hb hby at_59) ?_
    exact k
   obtain ⟨T93, h93, X93, e93, W93, f96, o94, N95, c93⟩ := kstC X86 hx hZ e86 f90 (j := (2 : Int32)) (by decide) (by decide) 2 rfl (Nat.le_of_ble_eq_true rfl) c92 rfl rfl (hb hby at_61) o87 N88 g73
   have f97 : Arv Z h93 b73 k73 .char (7 : Int32) [(ii 99), (ii 104), (ii 97), (ii 0), (ii 0), (ii 0), (ii 0)] (ii 0) := f96
   have kp98 := kp91.wr W93 (Or.inr z77)
   have c99 : Kt p e below T93 st0 (mkF m 66 #[vi k_, .val (.int (k_ &&& (3 : Int32))), vr sa110_, u_, u_, u_] [(ii 110), (ii 3), (rr b73), (rr b73)]) := fun t k => by
    refine c93 t ?_
    show S_ p e below T93 m 62 #[vi k_, .val (.int (k_ &&& (3 : Int32))), vr sa110_, u_, u_, u_] [(rr b73)] t
    refine XS.dup X93.here hx rfl (hb hby at_62) rfl rfl ?_
    show S_ p e below T93 m 63 #[vi k_, .val (.int (k_ &&& (3 : Int32))), vr sa110_, u_, u_, u_] [(rr b73), (rr b73)] t
    refine XS.iconst X93.here hx rfl (hb hby at_63) ?_
    show S_ p e below T93 m 64 #[vi k_, .val (.int (k_ &&& (3 : Int32))), vr sa110_, u_, u_, u_] [(ii 3), (rr b73), (rr b73)] t
    refine XS.bipush X93.here hx rfl (hb hby at_64) ?_
    exact k
   obtain ⟨T100, h100, X100, e100, W100, f103, o101, N102, c100⟩ := kstC X93 hx hZ e93 f97 (j := (3 : Int32)) (by decide) (by decide) 3 rfl (Nat.le_of_ble_eq_true rfl) c99 rfl rfl (hb hby at_66) o94 N95 g73
   have f104 : Arv Z h100 b73 k73 .char (7 : Int32) [(ii 99), (ii 104), (ii 97), (ii 110), (ii 0), (ii 0), (ii 0)] (ii 0) := f103
   have kp105 := kp98.wr W100 (Or.inr z77)
   have c106 : Kt p e below T100 st0 (mkF m 71 #[vi k_, .val (.int (k_ &&& (3 : Int32))), vr sa110_, u_, u_, u_] [(ii 103), (ii 4), (rr b73), (rr b73)]) := fun t k => by
    refine c100 t ?_
    show S_ p e below T100 m 67 #[vi k_, .val (.int (k_ &&& (3 : Int32))), vr sa110_, u_, u_, u_] [(rr b73)] t
    refine XS.dup X100.here hx rfl (hb hby at_67) rfl rfl ?_
    show S_ p e below T100 m 68 #[vi k_, .val (.int (k_ &&& (3 : Int32))), vr sa110_, u_, u_, u_] [(rr b73), (rr b73)] t
    refine XS.iconst X100.here hx rfl (hb hby at_68) ?_
    show S_ p e below T100 m 69 #[vi k_, .val (.int (k_ &&& (3 : Int32))), vr sa110_, u_, u_, u_] [(ii 4), (rr b73), (rr b73)] t
    refine XS.bipush X100.here hx rfl (hb hby at_69) ?_
    exact k
   obtain ⟨T107, h107, X107, e107, W107, f110, o108, N109, c107⟩ := kstC X100 hx hZ e100 f104 (j := (4 : Int32)) (by decide) (by decide) 4 rfl (Nat.le_of_ble_eq_true rfl) c106 rfl rfl (hb hby at_71) o101 N102 g73
   have f111 : Arv Z h107 b73 k73 .char (7 : Int32) [(ii 99), (ii 104), (ii 97), (ii 110), (ii 103), (ii 0), (ii 0)] (ii 0) := f110
   have kp112 := kp105.wr W107 (Or.inr z77)
   have c113 : Kt p e below T107 st0 (mkF m 76 #[vi k_, .val (.int (k_ &&& (3 : Int32))), vr sa110_, u_, u_, u_] [(ii 101), (ii 5), (rr b73), (rr b73)]) := fun t k => by
    refine c107 t ?_
    show S_ p e below T107 m 72 #[vi k_, .val (.int (k_ &&& (3 : Int32))), vr sa110_, u_, u_, u_] [(rr b73)] t
    refine XS.dup X107.here hx rfl (hb hby at_72) rfl rfl ?_
    show S_ p e below T107 m 73 #[vi k_, .val (.int (k_ &&& (3 : Int32))), vr sa110_, u_, u_, u_] [(rr b73), (rr b73)] t
    refine XS.iconst X107.here hx rfl (hb hby at_73) ?_
    show S_ p e below T107 m 74 #[vi k_, .val (.int (k_ &&& (3 : Int32))), vr sa110_, u_, u_, u_] [(ii 5), (rr b73), (rr b73)] t
    refine XS.bipush X107.here hx rfl (hb hby at_74) ?_
    exact k
   obtain ⟨T114, h114, X114, e114, W114, f117, o115, N116, c114⟩ := kstC X107 hx hZ e107 f111 (j := (5 : Int32)) (by decide) (by decide) 5 rfl (Nat.le_of_ble_eq_true rfl) c113 rfl rfl (hb hby at_76) o108 N109 g73
   have f118 : Arv Z h114 b73 k73 .char (7 : Int32) [(ii 99), (ii 104), (ii 97), (ii 110), (ii 103), (ii 101), (ii 0)] (ii 0) := f117
   have kp119 := kp112.wr W114 (Or.inr z77)
   have c120 : Kt p e below T114 st0 (mkF m 82 #[vi k_, .val (.int (k_ &&& (3 : Int32))), vr sa110_, u_, u_, u_] [(ii 100), (ii 6), (rr b73), (rr b73)]) := fun t k => by
    refine c114 t ?_
    show S_ p e below T114 m 77 #[vi k_, .val (.int (k_ &&& (3 : Int32))), vr sa110_, u_, u_, u_] [(rr b73)] t
    refine XS.dup X114.here hx rfl (hb hby at_77) rfl rfl ?_
    show S_ p e below T114 m 78 #[vi k_, .val (.int (k_ &&& (3 : Int32))), vr sa110_, u_, u_, u_] [(rr b73), (rr b73)] t
    refine XS.bipush X114.here hx rfl (hb hby at_78) ?_
    show S_ p e below T114 m 80 #[vi k_, .val (.int (k_ &&& (3 : Int32))), vr sa110_, u_, u_, u_] [(ii 6), (rr b73), (rr b73)] t
    refine XS.bipush X114.here hx rfl (hb hby at_80) ?_
    exact k
   obtain ⟨T121, h121, X121, e121, W121, f124, o122, N123, c121⟩ := kstC X114 hx hZ e114 f118 (j := (6 : Int32)) (by decide) (by decide) 6 rfl (Nat.le_of_ble_eq_true rfl) c120 rfl rfl (hb hby at_82) o115 N116 g73
   have f125 : Arv Z h121 b73 k73 .char (7 : Int32) [(ii 99), (ii 104), (ii 97), (ii 110), (ii 103), (ii 101), (ii 100)] (ii 0) := f124
   have kp126 := kp119.wr W121 (Or.inr z77)
   have c127 : Kt p e below T121 st0 (mkF m 185 #[vi k_, .val (.int (k_ &&& (3 : Int32))), vr sa110_, vr b73, u_, u_] []) := fun t k => by
    refine c121 t ?_
    show S_ p e below T121 m 83 #[vi k_, .val (.int (k_ &&& (3 : Int32))), vr sa110_, u_, u_, u_] [(rr b73)] t
    refine XS.astoreN X121.here hx rfl (hb hby at_83) rfl rfl (l' := #[vi k_, .val (.int (k_ &&& (3 : Int32))), vr sa110_, vr b73, u_, u_]) rfl ?_
    show S_ p e below T121 m 84 #[vi k_, .val (.int (k_ &&& (3 : Int32))), vr sa110_, vr b73, u_, u_] [] t
    refine yG X121.here hx rfl 84 185 rfl (hb hby at_84) ?_
    exact k
   obtain ⟨b128, T128, h128, z128, g128, X128, e128, E128, o129, A128, D128, U128, c128⟩ := knew X121 hx hZ hown (w4 hw) (w5 hw) (w6 hw) e121 c127 rfl (hb hby at_185) (by decide) (by decide) o122
   have kp130 := kp126.ext E128
   have z131 := Nat.le_trans kp126.1 z128
   have c132 : Kt p e below T128 st0 (mkF m 190 #[vi k_, .val (.int (k_ &&& (3 : Int32))), vr sa110_, vr b73, u_, u_] [(rr b73), (rr b128), (rr b128)]) := fun t k => by
    refine c128 t ?_
    show S_ p e below T128 m 188 #[vi k_, .val (.int (k_ &&& (3 : Int32))), vr sa110_, vr b73, u_, u_] [(rr b128)] t
    refine XS.dup X128.here hx rfl (hb hby at_188) rfl rfl ?_
    show S_ p e below T128 m 189 #[vi k_, .val (.int (k_ &&& (3 : Int32))), vr sa110_, vr b73, u_, u_] [(rr b128), (rr b128)] t
    refine XS.aloadN X128.here hx rfl (hb hby at_189) rfl rfl ?_
    exact k
   obtain ⟨_, T133, L133, X133, hQ133, c133⟩ := kspec X128 hx hZ hown (w7 hw) (w8 hw) (w6 hw) (w9 hw) (rm_str1_changed l Z a0 hw [] b128 b73 k73 si162_ h128 n0 o129 A128 (show Fld Z h128 b128 nm1 "value" "[B" .null from D128 (Or.inr (w32 hw)) (ty := (.array .byte)) (by decide)) (show Fld Z h128 b128 nm1 "coder" "B" (ii 0) from D128 (Or.inr (w30 hw)) (ty := .byte) (by decide)) g128 (f125.ext E128) ZS26_ sn165_) e128 c132 hml pd_pACrV b128 [(rr b73)] [(rr b128)] 1 (hb hby at_190) rfl rfl rfl rfl rfl rfl
   obtain ⟨rfl, N134q, K135, p136, p137, b138, k139, p140, p141, p142, p143⟩ := hQ133
   have N134 := Fr.app N123 N134q
   have o144 := o129.keep K135 (allS g128 all0)
   have kp145 := kp130.trans K135 (allS (Or.inr z131) all0)
   have z146 := Nat.le_trans kp130.1 p143
   have g147 := Nat.le_trans (Nat.le_trans (Nat.le_of_eq o129.1.symm) o129.2.1) p143
   have c148 : Kt p e below T133 st0 (mkF m 197 #[vi k_, .val (.int (k_ &&& (3 : Int32))), vr sa110_, vr b73, vr b128, u_] [(rr b128)]) := fun t k => by
    refine c133 t ?_
    show S_ p e below T133 m 193 #[vi k_, .val (.int (k_ &&& (3 : Int32))), vr sa110_, vr b73, u_, u_] [(rr b128)] t
    refine XS.astore X133.here hx rfl (hb hby at_193) rfl rfl (l' := #[vi k_, .val (.int (k_ &&& (3 : Int32))), vr sa110_, vr b73, vr b128, u_]) rfl ?_
    show S_ p e below T133 m 195 #[vi k_, .val (.int (k_ &&& (3 : Int32))), vr sa110_, vr b73, vr b128, u_] [] t
    refine XS.aload X133.here hx rfl (hb hby at_195) rfl rfl ?_
    exact k
   obtain ⟨_, T149, L149, X149, hQ149, c149⟩ := kstat X133 hx hZ hown (w33 hw) (w34 hw) (w1 hw) (w35 hw) (rm_ofLabel_changed l Z a0 hw [] b128 b138 k139 sa101_ sa105_ sa110_ sa114_ sa118_ sa122_ sa128_ sa132_ sa138_ sa142_ sa148_ sa152_ sa158_ si162_ sv167_ sk171_ sk174_ sk177_ sk180_ sk183_ T133.heap n0 o144 p136 p137 p140 p141 g128 ZS0_ ZE1_ ZS2_ ZE3_ ZS4_ ZE5_ ZS6_ ZE7_ ZS8_ ZE9_ ZF10_ ZE11_ ZF12_ ZF13_ ZF14_ ZE15_ ZF16_ ZF17_ ZF18_ ZE19_ ZF20_ ZF21_ ZF22_ ZE23_ ZF24_ ZF25_ ZS26_ sn165_ sv167_r ZS29_ ZA30_ ZA31_ ZA32_ ZA33_ ZA34_) rfl c148 hml pd_pLjava_lang_String_rLcom_example_elvina_elvina_monitor_Outcome_ [(rr b128)] [] 0 (hb hby at_197) rfl rfl rfl rfl rfl rfl
   obtain ⟨rfl, N150q, K151⟩ := hQ149
   have N150 := Fr.app N134 N150q
   have o152 := o144.keep K151 all0
   have kp153 := kp145.trans K151 all0
   have c154 : Kt p e below T149 st0 (mkF m 209 #[vi k_, .val (.int (k_ &&& (3 : Int32))), vr sa110_, vr b73, vr b128, vr sa110_] [(rr sa110_)]) := fun t k => by
    refine c149 t ?_
    show S_ p e below T149 m 200 #[vi k_, .val (.int (k_ &&& (3 : Int32))), vr sa110_, vr b73, vr b128, u_] [(rr sa110_)] t
    refine XS.astore X149.here hx rfl (hb hby at_200) rfl rfl (l' := #[vi k_, .val (.int (k_ &&& (3 : Int32))), vr sa110_, vr b73, vr b128, vr sa110_]) rfl ?_
    show S_ p e below T149 m 202 #[vi k_, .val (.int (k_ &&& (3 : Int32))), vr sa110_, vr b73, vr b128, vr sa110_] [] t
    refine XS.aload X149.here hx rfl (hb hby at_202) rfl rfl ?_
    show S_ p e below T149 m 204 #[vi k_, .val (.int (k_ &&& (3 : Int32))), vr sa110_, vr b73, vr b128, vr sa110_] [(rr sa110_)] t
    refine XS.aloadN X149.here hx rfl (hb hby at_204) rfl rfl ?_
    show S_ p e below T149 m 205 #[vi k_, .val (.int (k_ &&& (3 : Int32))), vr sa110_, vr b73, vr b128, vr sa110_] [(rr sa110_), (rr sa110_)] t
    refine Jvm.RoadKit.acmp (g := (mkF m 205 #[vi k_, .val (.int (k_ &&& (3 : Int32))), vr sa110_, vr b73, vr b128, vr sa110_] [(rr sa110_), (rr sa110_)])) X149 hx rfl rfl rfl (pc0 := 205) (pc' := 208) (same := true) rfl (hb hby at_205) rfl (decide_eq_true rfl) (by decide) (by decide) ?_
    show S_ p e below T149 m 208 #[vi k_, .val (.int (k_ &&& (3 : Int32))), vr sa110_, vr b73, vr b128, vr sa110_] [] t
    refine XS.aloadN X149.here hx rfl (hb hby at_208) rfl rfl ?_
    exact k
   obtain ⟨_, T155, L155, X155, hQ155, c155⟩ := kvirt X149 hx hZ hown (w66 hw) (w67 hw) (w69 hw) (w68 hw) (w70 hw) (w1 hw) (rm_label l Z a0 hw [] sa110_ sa132_ T149.heap n0 o152 (ZF14_.ext o152.2)) rfl (ZE5_.ext o152.2) c154 hml pd_prLjava_lang_String_ [] [] 0 (hb hby at_209) rfl rfl rfl rfl rfl rfl
   obtain ⟨rfl, N156q, K157⟩ := hQ155
   have N156 := Fr.app N150 N156q
   have q158 := Nat.ne_of_lt (Nat.lt_of_lt_of_le ZE15_.lt (Nat.le_trans (Nat.le_of_eq O0.1) g128))
   have c159 : Kt p e below T155 st0 (mkF m 214 #[vi k_, .val (.int (k_ &&& (3 : Int32))), vr sa110_, vr b73, vr b128, vr sa110_] [(rr b128), (rr sa132_)]) := fun t k => by
    refine c155 t ?_
    show S_ p e below T155 m 212 #[vi k_, .val (.int (k_ &&& (3 : Int32))), vr sa110_, vr b73, vr b128, vr sa110_] [(rr sa132_)] t
    refine XS.aload X155.here hx rfl (hb hby at_212) rfl rfl ?_
    exact k
   obtain ⟨_, T160, L160, X160, hQ160, c160⟩ := kvirt X155 hx hZ hown (w71 hw) (w57 hw) (w59 hw) (w58 hw) (w60 hw) (w6 hw) (rm_seq_changed l Z a0 hw [] sa132_ sa138_ sk177_ b128 b138 k139 si162_ T149.heap n0 o152 (ZE15_.ext o152.2) (ZF16_.ext o152.2) (ZF17_.ext o152.2) (ZA32_.ext o152.2) (p136.keep K151) (p137.keep K151 nin0) (p140.keep K151 nin0) (p141.keep K151 nin0) ZS26_ sn165_ q158) K157 (ZE15_.ext o152.2) c159 hml pd_pLjava_lang_Object_rZ [(rr b128)] [] 0 (hb hby at_214) rfl rfl rfl rfl rfl rfl
   obtain ⟨rfl, N161q, K162⟩ := hQ160
   have N161 := Fr.app N156 N161q
   obtain ⟨fs, hr, hrun, hended, hW, hsame⟩ := X160.leave (v := some (ii 1)) (fun h => by rw [Bd.returns] at h; cases h)
   refine ⟨_, _, c160 _ ?_, hrun, hended, _, _, rfl, ?_, ⟨_, rfl⟩, hW, hsame.mono (by decide) (by decide)⟩
   ·show S_ p e below T160 m 217 #[vi k_, .val (.int (k_ &&& (3 : Int32))), vr sa110_, vr b73, vr b128, vr sa110_] [(ii 1)] _
    refine XS.ifNo X160.here hx rfl (hb hby at_217) rfl rfl ?_
    show S_ p e below T160 m 220 #[vi k_, .val (.int (k_ &&& (3 : Int32))), vr sa110_, vr b73, vr b128, vr sa110_] [] _
    refine XS.iconst X160.here hx rfl (hb hby at_220) ?_
    show S_ p e below T160 m 221 #[vi k_, .val (.int (k_ &&& (3 : Int32))), vr sa110_, vr b73, vr b128, vr sa110_] [(ii 1)] _
    refine yG X160.here hx rfl 221 225 rfl (hb hby at_221) ?_
    show S_ p e below T160 m 225 #[vi k_, .val (.int (k_ &&& (3 : Int32))), vr sa110_, vr b73, vr b128, vr sa110_] [(ii 1)] _
    exact retN X160 hx (t := .boolean) Bd.returns (by simp) (hb hby at_225) hr
   ·show Q_law Z k_ sa101_ sa105_ sa110_ sa114_ sa118_ sa122_ sa128_ sa132_ sa138_ sa142_ sa148_ sa152_ sa158_ si162_ sv167_ sk171_ sk174_ sk177_ sk180_ sk183_ h0 n0 _ T160.heap _
    rw [K162]
    exact ⟨rfl, N161, kp153⟩
  ·have c163 : Kt p e below s₁ st0 (mkF m 89 #[vi k_, .val (.int (k_ &&& (3 : Int32))), u_, u_, u_, u_] [(ii 2), (.int (k_ &&& (3 : Int32)))]) := fun t k => by
    refine c68 t ?_
    show S_ p e below s₁ m 36 #[vi k_, .val (.int (k_ &&& (3 : Int32))), u_, u_, u_, u_] [(ii 1), (.int (k_ &&& (3 : Int32)))] t
    refine yC X0.here hx rfl 36 87 rfl (hb hby at_36) rfl (feq hc69).2 ?_
    show S_ p e below s₁ m 87 #[vi k_, .val (.int (k_ &&& (3 : Int32))), u_, u_, u_, u_] [] t
    refine XS.iloadN X0.here hx rfl (hb hby at_87) rfl ?_
    show S_ p e below s₁ m 88 #[vi k_, .val (.int (k_ &&& (3 : Int32))), u_, u_, u_, u_] [(.int (k_ &&& (3 : Int32)))] t
    refine XS.iconst X0.here hx rfl (hb hby at_88) ?_
    exact k
   by_cases hc164 : (k_ &&& (3 : Int32)) = (2 : Int32)
   ·have c165 : Kt p e below s₁ st0 (mkF m 92 #[vi k_, .val (.int (k_ &&& (3 : Int32))), u_, u_, u_, u_] []) := fun t k => by
     refine c163 t ?_
     show S_ p e below s₁ m 89 #[vi k_, .val (.int (k_ &&& (3 : Int32))), u_, u_, u_, u_] [(ii 2), (.int (k_ &&& (3 : Int32)))] t
     refine XS.icmpNo X0.here hx rfl (hb hby at_89) rfl (teq hc164).2 ?_
     exact k
    obtain ⟨T166, X166, e166, c166⟩ := kgetS X0 hx hZ hown (host := "") (Or.inl (w73 hw)) Via.refl e0 (ZS6_.ext O0.2) c165 rfl (hb hby at_92)
    have c167 : Kt p e below T166 st0 (mkF m 98 #[vi k_, .val (.int (k_ &&& (3 : Int32))), vr sa114_, u_, u_, u_] [(ii 9)]) := fun t k => by
     refine c166 t ?_
     show S_ p e below T166 m 95 #[vi k_, .val (.int (k_ &&& (3 : Int32))), u_, u_, u_, u_] [(rr sa114_)] t
     refine XS.astoreN X166.here hx rfl (hb hby at_95) rfl rfl (l' := #[vi k_, .val (.int (k_ &&& (3 : Int32))), vr sa114_, u_, u_, u_]) rfl ?_
     show S_ p e below T166 m 96 #[vi k_, .val (.int (k_ &&& (3 : Int32))), vr sa114_, u_, u_, u_] [] t
     refine XS.bipush X166.here hx rfl (hb hby at_96) ?_
     exact k
    obtain ⟨b168, T168, h168, k168, z168, g168, X168, e168, E168, o169, A168, c168⟩ := knewP (aty := .char) X166 hx hZ (w3 hw) e166 c167 rfl (hb hby at_98) rfl (by decide) 9 (by decide) (by decide) (by decide) (by decide) O0
    have kp171 := kp0.ext E168
    have z172 := Nat.le_trans kp0.1 z168
    have f170 : Arv Z h168 b168 k168 .char (9 : Int32) [(ii 0), (ii 0), (ii 0), (ii 0), (ii 0), (ii 0), (ii 0), (ii 0), (ii 0)] (ii 0) := A168.pad (pad_rep [] (ii 0) 9)
    have c173 : Kt p e below T168 st0 (mkF m 104 #[vi k_, .val (.int (k_ &&& (3 : Int32))), vr sa114_, u_, u_, u_] [(ii 117), (ii 0), (rr b168), (rr b168)]) := fun t k => by
     refine c168 t ?_
     show S_ p e below T168 m 100 #[vi k_, .val (.int (k_ &&& (3 : Int32))), vr sa114_, u_, u_, u_] [(rr b168)] t
     refine XS.dup X168.here hx rfl (hb hby at_100) rfl rfl ?_
     show S_ p e below T168 m 101 #[vi k_, .val (.int (k_ &&& (3 : Int32))), vr sa114_, u_, u_, u_] [(rr b168), (rr b168)] t
     refine XS.iconst X168.here hx rfl (hb hby at_101) ?_
     show S_ p e below T168 m 102 #[vi k_, .val (.int (k_ &&& (3 : Int32))), vr sa114_, u_, u_, u_] [(ii 0), (rr b168), (rr b168)] t
     refine XS.bipush X168.here hx rfl (hb hby at_102) ?_
     exact k
    obtain ⟨T174, h174, X174, e174, W174, f177, o175, N176, c174⟩ := kstC X168 hx hZ e168 f170 (j := (0 : Int32)) (by decide) (by decide) 0 rfl (Nat.le_of_ble_eq_true rfl) c173 rfl rfl (hb hby at_104) o169 N0 g168
    have f178 : Arv Z h174 b168 k168 .char (9 : Int32) [(ii 117), (ii 0), (ii 0), (ii 0), (ii 0), (ii 0), (ii 0), (ii 0), (ii 0)] (ii 0) := f177
    have kp179 := kp171.wr W174 (Or.inr z172)
    have c180 : Kt p e below T174 st0 (mkF m 109 #[vi k_, .val (.int (k_ &&& (3 : Int32))), vr sa114_, u_, u_, u_] [(ii 110), (ii 1), (rr b168), (rr b168)]) := fun t k => by
     refine c174 t ?_
     show S_ p e below T174 m 105 #[vi k_, .val (.int (k_ &&& (3 : Int32))), vr sa114_, u_, u_, u_] [(rr b168)] t
     refine XS.dup X174.here hx rfl (hb hby at_105) rfl rfl ?_
     show S_ p e below T174 m 106 #[vi k_, .val (.int (k_ &&& (3 : Int32))), vr sa114_, u_, u_, u_] [(rr b168), (rr b168)] t
     refine XS.iconst X174.here hx rfl (hb hby at_106) ?_
     show S_ p e below T174 m 107 #[vi k_, .val (.int (k_ &&& (3 : Int32))), vr sa114_, u_, u_, u_] [(ii 1), (rr b168), (rr b168)] t
     refine XS.bipush X174.here hx rfl (hb hby at_107) ?_
     exact k
    obtain ⟨T181, h181, X181, e181, W181, f184, o182, N183, c181⟩ := kstC X174 hx hZ e174 f178 (j := (1 : Int32)) (by decide) (by decide) 1 rfl (Nat.le_of_ble_eq_true rfl) c180 rfl rfl (hb hby at_109) o175 N176 g168
    have f185 : Arv Z h181 b168 k168 .char (9 : Int32) [(ii 117), (ii 110), (ii 0), (ii 0), (ii 0), (ii 0), (ii 0), (ii 0), (ii 0)] (ii 0) := f184
    have kp186 := kp179.wr W181 (Or.inr z172)
    have c187 : Kt p e below T181 st0 (mkF m 114 #[vi k_, .val (.int (k_ &&& (3 : Int32))), vr sa114_, u_, u_, u_] [(ii 99), (ii 2), (rr b168), (rr b168)]) := fun t k => by
     refine c181 t ?_
     show S_ p e below T181 m 110 #[vi k_, .val (.int (k_ &&& (3 : Int32))), vr sa114_, u_, u_, u_] [(rr b168)] t
     refine XS.dup X181.here hx rfl (hb hby at_110) rfl rfl ?_
     show S_ p e below T181 m 111 #[vi k_, .val (.int (k_ &&& (3 : Int32))), vr sa114_, u_, u_, u_] [(rr b168), (rr b168)] t
     refine XS.iconst X181.here hx rfl (hb hby at_111) ?_
     show S_ p e below T181 m 112 #[vi k_, .val (.int (k_ &&& (3 : Int32))), vr sa114_, u_, u_, u_] [(ii 2), (rr b168), (rr b168)] t
     refine XS.bipush X181.here hx rfl (hb hby at_112) ?_
     exact k
    obtain ⟨T188, h188, X188, e188, W188, f191, o189, N190, c188⟩ := kstC X181 hx hZ e181 f185 (j := (2 : Int32)) (by decide) (by decide) 2 rfl (Nat.le_of_ble_eq_true rfl) c187 rfl rfl (hb hby at_114) o182 N183 g168
    have f192 : Arv Z h188 b168 k168 .char (9 : Int32) [(ii 117), (ii 110), (ii 99), (ii 0), (ii 0), (ii 0), (ii 0), (ii 0), (ii 0)] (ii 0) := f191
    have kp193 := kp186.wr W188 (Or.inr z172)
    have c194 : Kt p e below T188 st0 (mkF m 119 #[vi k_, .val (.int (k_ &&& (3 : Int32))), vr sa114_, u_, u_, u_] [(ii 104), (ii 3), (rr b168), (rr b168)]) := fun t k => by
     refine c188 t ?_
     show S_ p e below T188 m 115 #[vi k_, .val (.int (k_ &&& (3 : Int32))), vr sa114_, u_, u_, u_] [(rr b168)] t
     refine XS.dup X188.here hx rfl (hb hby at_115) rfl rfl ?_
     show S_ p e below T188 m 116 #[vi k_, .val (.int (k_ &&& (3 : Int32))), vr sa114_, u_, u_, u_] [(rr b168), (rr b168)] t
     refine XS.iconst X188.here hx rfl (hb hby at_116) ?_
     show S_ p e below T188 m 117 #[vi k_, .val (.int (k_ &&& (3 : Int32))), vr sa114_, u_, u_, u_] [(ii 3), (rr b168), (rr b168)] t
     refine XS.bipush X188.here hx rfl (hb hby at_117) ?_
     exact k
    obtain ⟨T195, h195, X195, e195, W195, f198, o196, N197, c195⟩ := kstC X188 hx hZ e188 f192 (j := (3 : Int32)) (by decide) (by decide) 3 rfl (Nat.le_of_ble_eq_true rfl) c194 rfl rfl (hb hby at_119) o189 N190 g168
    have f199 : Arv Z h195 b168 k168 .char (9 : Int32) [(ii 117), (ii 110), (ii 99), (ii 104), (ii 0), (ii 0), (ii 0), (ii 0), (ii 0)] (ii 0) := f198
    have kp200 := kp193.wr W195 (Or.inr z172)
    have c201 : Kt p e below T195 st0 (mkF m 124 #[vi k_, .val (.int (k_ &&& (3 : Int32))), vr sa114_, u_, u_, u_] [(ii 97), (ii 4), (rr b168), (rr b168)]) := fun t k => by
     refine c195 t ?_
     show S_ p e below T195 m 120 #[vi k_, .val (.int (k_ &&& (3 : Int32))), vr sa114_, u_, u_, u_] [(rr b168)] t
     refine XS.dup X195.here hx rfl (hb hby at_120) rfl rfl ?_
     show S_ p e below T195 m 121 #[vi k_, .val (.int (k_ &&& (3 : Int32))), vr sa114_, u_, u_, u_] [(rr b168), (rr b168)] t
     refine XS.iconst X195.here hx rfl (hb hby at_121) ?_
     show S_ p e below T195 m 122 #[vi k_, .val (.int (k_ &&& (3 : Int32))), vr sa114_, u_, u_, u_] [(ii 4), (rr b168), (rr b168)] t
     refine XS.bipush X195.here hx rfl (hb hby at_122) ?_
     exact k
    obtain ⟨T202, h202, X202, e202, W202, f205, o203, N204, c202⟩ := kstC X195 hx hZ e195 f199 (j := (4 : Int32)) (by decide) (by decide) 4 rfl (Nat.le_of_ble_eq_true rfl) c201 rfl rfl (hb hby at_124) o196 N197 g168
    have f206 : Arv Z h202 b168 k168 .char (9 : Int32) [(ii 117), (ii 110), (ii 99), (ii 104), (ii 97), (ii 0), (ii 0), (ii 0), (ii 0)] (ii 0) := f205
    have kp207 := kp200.wr W202 (Or.inr z172)
    have c208 : Kt p e below T202 st0 (mkF m 129 #[vi k_, .val (.int (k_ &&& (3 : Int32))), vr sa114_, u_, u_, u_] [(ii 110), (ii 5), (rr b168), (rr b168)]) := fun t k => by
     refine c202 t ?_
     show S_ p e below T202 m 125 #[vi k_, .val (.int (k_ &&& (3 : Int32))), vr sa114_, u_, u_, u_] [(rr b168)] t
     refine XS.dup X202.here hx rfl (hb hby at_125) rfl rfl ?_
     show S_ p e below T202 m 126 #[vi k_, .val (.int (k_ &&& (3 : Int32))), vr sa114_, u_, u_, u_] [(rr b168), (rr b168)] t
     refine XS.iconst X202.here hx rfl (hb hby at_126) ?_
     show S_ p e below T202 m 127 #[vi k_, .val (.int (k_ &&& (3 : Int32))), vr sa114_, u_, u_, u_] [(ii 5), (rr b168), (rr b168)] t
     refine XS.bipush X202.here hx rfl (hb hby at_127) ?_
     exact k
    obtain ⟨T209, h209, X209, e209, W209, f212, o210, N211, c209⟩ := kstC X202 hx hZ e202 f206 (j := (5 : Int32)) (by decide) (by decide) 5 rfl (Nat.le_of_ble_eq_true rfl) c208 rfl rfl (hb hby at_129) o203 N204 g168
    have f213 : Arv Z h209 b168 k168 .char (9 : Int32) [(ii 117), (ii 110), (ii 99), (ii 104), (ii 97), (ii 110), (ii 0), (ii 0), (ii 0)] (ii 0) := f212
    have kp214 := kp207.wr W209 (Or.inr z172)
    have c215 : Kt p e below T209 st0 (mkF m 135 #[vi k_, .val (.int (k_ &&& (3 : Int32))), vr sa114_, u_, u_, u_] [(ii 103), (ii 6), (rr b168), (rr b168)]) := fun t k => by
     refine c209 t ?_
     show S_ p e below T209 m 130 #[vi k_, .val (.int (k_ &&& (3 : Int32))), vr sa114_, u_, u_, u_] [(rr b168)] t
     refine XS.dup X209.here hx rfl (hb hby at_130) rfl rfl ?_
     show S_ p e below T209 m 131 #[vi k_, .val (.int (k_ &&& (3 : Int32))), vr sa114_, u_, u_, u_] [(rr b168), (rr b168)] t
     refine XS.bipush X209.here hx rfl (hb hby at_131) ?_
     show S_ p e below T209 m 133 #[vi k_, .val (.int (k_ &&& (3 : Int32))), vr sa114_, u_, u_, u_] [(ii 6), (rr b168), (rr b168)] t
     refine XS.bipush X209.here hx rfl (hb hby at_133) ?_
     exact k
    obtain ⟨T216, h216, X216, e216, W216, f219, o217, N218, c216⟩ := kstC X209 hx hZ e209 f213 (j := (6 : Int32)) (by decide) (by decide) 6 rfl (Nat.le_of_ble_eq_true rfl) c215 rfl rfl (hb hby at_135) o210 N211 g168
    have f220 : Arv Z h216 b168 k168 .char (9 : Int32) [(ii 117), (ii 110), (ii 99), (ii 104), (ii 97), (ii 110), (ii 103), (ii 0), (ii 0)] (ii 0) := f219
    have kp221 := kp214.wr W216 (Or.inr z172)
    have c222 : Kt p e below T216 st0 (mkF m 141 #[vi k_, .val (.int (k_ &&& (3 : Int32))), vr sa114_, u_, u_, u_] [(ii 101), (ii 7), (rr b168), (rr b168)]) := fun t k => by
     refine c216 t ?_
     show S_ p e below T216 m 136 #[vi k_, .val (.int (k_ &&& (3 : Int32))), vr sa114_, u_, u_, u_] [(rr b168)] t
     refine XS.dup X216.here hx rfl (hb hby at_136) rfl rfl ?_
     show S_ p e below T216 m 137 #[vi k_, .val (.int (k_ &&& (3 : Int32))), vr sa114_, u_, u_, u_] [(rr b168), (rr b168)] t
     refine XS.bipush X216.here hx rfl (hb hby at_137) ?_
     show S_ p e below T216 m 139 #[vi k_, .val (.int (k_ &&& (3 : Int32))), vr sa114_, u_, u_, u_] [(ii 7), (rr b168), (rr b168)] t
     refine XS.bipush X216.here hx rfl (hb hby at_139) ?_
     exact k
    obtain ⟨T223, h223, X223, e223, W223, f226, o224, N225, c223⟩ := kstC X216 hx hZ e216 f220 (j := (7 : Int32)) (by decide) (by decide) 7 rfl (Nat.le_of_ble_eq_true rfl) c222 rfl rfl (hb hby at_141) o217 N218 g168
    have f227 : Arv Z h223 b168 k168 .char (9 : Int32) [(ii 117), (ii 110), (ii 99), (ii 104), (ii 97), (ii 110), (ii 103), (ii 101), (ii 0)] (ii 0) := f226
    have kp228 := kp221.wr W223 (Or.inr z172)
    have c229 : Kt p e below T223 st0 (mkF m 147 #[vi k_, .val (.int (k_ &&& (3 : Int32))), vr sa114_, u_, u_, u_] [(ii 100), (ii 8), (rr b168), (rr b168)]) := fun t k => by
     refine c223 t ?_
     show S_ p e below T223 m 142 #[vi k_, .val (.int (k_ &&& (3 : Int32))), vr sa114_, u_, u_, u_] [(rr b168)] t
     refine XS.dup X223.here hx rfl (hb hby at_142) rfl rfl ?_
     show S_ p e below T223 m 143 #[vi k_, .val (.int (k_ &&& (3 : Int32))), vr sa114_, u_, u_, u_] [(rr b168), (rr b168)] t
     refine XS.bipush X223.here hx rfl (hb hby at_143) ?_
     show S_ p e below T223 m 145 #[vi k_, .val (.int (k_ &&& (3 : Int32))), vr sa114_, u_, u_, u_] [(ii 8), (rr b168), (rr b168)] t
     refine XS.bipush X223.here hx rfl (hb hby at_145) ?_
     exact k
    obtain ⟨T230, h230, X230, e230, W230, f233, o231, N232, c230⟩ := kstC X223 hx hZ e223 f227 (j := (8 : Int32)) (by decide) (by decide) 8 rfl (Nat.le_of_ble_eq_true rfl) c229 rfl rfl (hb hby at_147) o224 N225 g168
    have f234 : Arv Z h230 b168 k168 .char (9 : Int32) [(ii 117), (ii 110), (ii 99), (ii 104), (ii 97), (ii 110), (ii 103), (ii 101), (ii 100)] (ii 0) := f233
    have kp235 := kp228.wr W230 (Or.inr z172)
    have c236 : Kt p e below T230 st0 (mkF m 185 #[vi k_, .val (.int (k_ &&& (3 : Int32))), vr sa114_, vr b168, u_, u_] []) := fun t k => by
     refine c230 t ?_
     show S_ p e below T230 m 148 #[vi k_, .val (.int (k_ &&& (3 : Int32))), vr sa114_, u_, u_, u_] [(rr b168)] t
     refine XS.astoreN X230.here hx rfl (hb hby at_148) rfl rfl (l' := #[vi k_, .val (.int (k_ &&& (3 : Int32))), vr sa114_, vr b168, u_, u_]) rfl ?_
     show S_ p e below T230 m 149 #[vi k_, .val (.int (k_ &&& (3 : Int32))), vr sa114_, vr b168, u_, u_] [] t
     refine yG X230.here hx rfl 149 185 rfl (hb hby at_149) ?_
     exact k
    obtain ⟨b237, T237, h237, z237, g237, X237, e237, E237, o238, A237, D237, U237, c237⟩ := knew X230 hx hZ hown (w4 hw) (w5 hw) (w6 hw) e230 c236 rfl (hb hby at_185) (by decide) (by decide) o231
    have kp239 := kp235.ext E237
    have z240 := Nat.le_trans kp235.1 z237
    have c241 : Kt p e below T237 st0 (mkF m 190 #[vi k_, .val (.int (k_ &&& (3 : Int32))), vr sa114_, vr b168, u_, u_] [(rr b168), (rr b237), (rr b237)]) := fun t k => by
     refine c237 t ?_
     show S_ p e below T237 m 188 #[vi k_, .val (.int (k_ &&& (3 : Int32))), vr sa114_, vr b168, u_, u_] [(rr b237)] t
     refine XS.dup X237.here hx rfl (hb hby at_188) rfl rfl ?_
     show S_ p e below T237 m 189 #[vi k_, .val (.int (k_ &&& (3 : Int32))), vr sa114_, vr b168, u_, u_] [(rr b237), (rr b237)] t
     refine XS.aloadN X237.here hx rfl (hb hby at_189) rfl rfl ?_
     exact k
    obtain ⟨_, T242, L242, X242, hQ242, c242⟩ := kspec X237 hx hZ hown (w7 hw) (w8 hw) (w6 hw) (w9 hw) (rm_str1_unchanged l Z a0 hw [] b237 b168 k168 si162_ h237 n0 o238 A237 (show Fld Z h237 b237 nm1 "value" "[B" .null from D237 (Or.inr (w32 hw)) (ty := (.array .byte)) (by decide)) (show Fld Z h237 b237 nm1 "coder" "B" (ii 0) from D237 (Or.inr (w30 hw)) (ty := .byte) (by decide)) g237 (f234.ext E237) ZS26_ sn165_) e237 c241 hml pd_pACrV b237 [(rr b168)] [(rr b237)] 1 (hb hby at_190) rfl rfl rfl rfl rfl rfl
    obtain ⟨rfl, N243q, K244, p245, p246, b247, k248, p249, p250, p251, p252⟩ := hQ242
    have N243 := Fr.app N232 N243q
    have o253 := o238.keep K244 (allS g237 all0)
    have kp254 := kp239.trans K244 (allS (Or.inr z240) all0)
    have z255 := Nat.le_trans kp239.1 p252
    have g256 := Nat.le_trans (Nat.le_trans (Nat.le_of_eq o238.1.symm) o238.2.1) p252
    have c257 : Kt p e below T242 st0 (mkF m 197 #[vi k_, .val (.int (k_ &&& (3 : Int32))), vr sa114_, vr b168, vr b237, u_] [(rr b237)]) := fun t k => by
     refine c242 t ?_
     show S_ p e below T242 m 193 #[vi k_, .val (.int (k_ &&& (3 : Int32))), vr sa114_, vr b168, u_, u_] [(rr b237)] t
     refine XS.astore X242.here hx rfl (hb hby at_193) rfl rfl (l' := #[vi k_, .val (.int (k_ &&& (3 : Int32))), vr sa114_, vr b168, vr b237, u_]) rfl ?_
     show S_ p e below T242 m 195 #[vi k_, .val (.int (k_ &&& (3 : Int32))), vr sa114_, vr b168, vr b237, u_] [] t
     refine XS.aload X242.here hx rfl (hb hby at_195) rfl rfl ?_
     exact k
    obtain ⟨_, T258, L258, X258, hQ258, c258⟩ := kstat X242 hx hZ hown (w33 hw) (w34 hw) (w1 hw) (w35 hw) (rm_ofLabel_unchanged l Z a0 hw [] b237 b247 k248 sa101_ sa105_ sa110_ sa114_ sa118_ sa122_ sa128_ sa132_ sa138_ sa142_ sa148_ sa152_ sa158_ si162_ sv167_ sk171_ sk174_ sk177_ sk180_ sk183_ T242.heap n0 o253 p245 p246 p249 p250 g237 ZS0_ ZE1_ ZS2_ ZE3_ ZS4_ ZE5_ ZS6_ ZE7_ ZS8_ ZE9_ ZF10_ ZE11_ ZF12_ ZF13_ ZF14_ ZE15_ ZF16_ ZF17_ ZF18_ ZE19_ ZF20_ ZF21_ ZF22_ ZE23_ ZF24_ ZF25_ ZS26_ sn165_ sv167_r ZS29_ ZA30_ ZA31_ ZA32_ ZA33_ ZA34_) rfl c257 hml pd_pLjava_lang_String_rLcom_example_elvina_elvina_monitor_Outcome_ [(rr b237)] [] 0 (hb hby at_197) rfl rfl rfl rfl rfl rfl
    obtain ⟨rfl, N259q, K260⟩ := hQ258
    have N259 := Fr.app N243 N259q
    have o261 := o253.keep K260 all0
    have kp262 := kp254.trans K260 all0
    have c263 : Kt p e below T258 st0 (mkF m 209 #[vi k_, .val (.int (k_ &&& (3 : Int32))), vr sa114_, vr b168, vr b237, vr sa114_] [(rr sa114_)]) := fun t k => by
     refine c258 t ?_
     show S_ p e below T258 m 200 #[vi k_, .val (.int (k_ &&& (3 : Int32))), vr sa114_, vr b168, vr b237, u_] [(rr sa114_)] t
     refine XS.astore X258.here hx rfl (hb hby at_200) rfl rfl (l' := #[vi k_, .val (.int (k_ &&& (3 : Int32))), vr sa114_, vr b168, vr b237, vr sa114_]) rfl ?_
     show S_ p e below T258 m 202 #[vi k_, .val (.int (k_ &&& (3 : Int32))), vr sa114_, vr b168, vr b237, vr sa114_] [] t
     refine XS.aload X258.here hx rfl (hb hby at_202) rfl rfl ?_
     show S_ p e below T258 m 204 #[vi k_, .val (.int (k_ &&& (3 : Int32))), vr sa114_, vr b168, vr b237, vr sa114_] [(rr sa114_)] t
     refine XS.aloadN X258.here hx rfl (hb hby at_204) rfl rfl ?_
     show S_ p e below T258 m 205 #[vi k_, .val (.int (k_ &&& (3 : Int32))), vr sa114_, vr b168, vr b237, vr sa114_] [(rr sa114_), (rr sa114_)] t
     refine Jvm.RoadKit.acmp (g := (mkF m 205 #[vi k_, .val (.int (k_ &&& (3 : Int32))), vr sa114_, vr b168, vr b237, vr sa114_] [(rr sa114_), (rr sa114_)])) X258 hx rfl rfl rfl (pc0 := 205) (pc' := 208) (same := true) rfl (hb hby at_205) rfl (decide_eq_true rfl) (by decide) (by decide) ?_
     show S_ p e below T258 m 208 #[vi k_, .val (.int (k_ &&& (3 : Int32))), vr sa114_, vr b168, vr b237, vr sa114_] [] t
     refine XS.aloadN X258.here hx rfl (hb hby at_208) rfl rfl ?_
     exact k
    obtain ⟨_, T264, L264, X264, hQ264, c264⟩ := kvirt X258 hx hZ hown (w66 hw) (w67 hw) (w69 hw) (w68 hw) (w70 hw) (w1 hw) (rm_label l Z a0 hw [] sa114_ sa142_ T258.heap n0 o261 (ZF18_.ext o261.2)) rfl (ZE7_.ext o261.2) c263 hml pd_prLjava_lang_String_ [] [] 0 (hb hby at_209) rfl rfl rfl rfl rfl rfl
    obtain ⟨rfl, N265q, K266⟩ := hQ264
    have N265 := Fr.app N259 N265q
    have q267 := Nat.ne_of_lt (Nat.lt_of_lt_of_le ZE19_.lt (Nat.le_trans (Nat.le_of_eq O0.1) g237))
    have c268 : Kt p e below T264 st0 (mkF m 214 #[vi k_, .val (.int (k_ &&& (3 : Int32))), vr sa114_, vr b168, vr b237, vr sa114_] [(rr b237), (rr sa142_)]) := fun t k => by
     refine c264 t ?_
     show S_ p e below T264 m 212 #[vi k_, .val (.int (k_ &&& (3 : Int32))), vr sa114_, vr b168, vr b237, vr sa114_] [(rr sa142_)] t
     refine XS.aload X264.here hx rfl (hb hby at_212) rfl rfl ?_
     exact k
    obtain ⟨_, T269, L269, X269, hQ269, c269⟩ := kvirt X264 hx hZ hown (w71 hw) (w57 hw) (w59 hw) (w58 hw) (w60 hw) (w6 hw) (rm_seq_unchanged l Z a0 hw [] sa142_ sa148_ sk180_ b237 b247 k248 si162_ T258.heap n0 o261 (ZE19_.ext o261.2) (ZF20_.ext o261.2) (ZF21_.ext o261.2) (ZA33_.ext o261.2) (p245.keep K260) (p246.keep K260 nin0) (p249.keep K260 nin0) (p250.keep K260 nin0) ZS26_ sn165_ q267) K266 (ZE19_.ext o261.2) c268 hml pd_pLjava_lang_Object_rZ [(rr b237)] [] 0 (hb hby at_214) rfl rfl rfl rfl rfl rfl
    obtain ⟨rfl, N270q, K271⟩ := hQ269
    have N270 := Fr.app N265 N270q
    obtain ⟨fs, hr, hrun, hended, hW, hsame⟩ := X269.leave (v := some (ii 1)) (fun h => by rw [Bd.returns] at h; cases h)
    refine ⟨_, _, c269 _ ?_, hrun, hended, _, _, rfl, ?_, ⟨_, rfl⟩, hW, hsame.mono (by decide) (by decide)⟩
    ·show S_ p e below T269 m 217 #[vi k_, .val (.int (k_ &&& (3 : Int32))), vr sa114_, vr b168, vr b237, vr sa114_] [(ii 1)] _
     refine XS.ifNo X269.here hx rfl (hb hby at_217) rfl rfl ?_
     show S_ p e below T269 m 220 #[vi k_, .val (.int (k_ &&& (3 : Int32))), vr sa114_, vr b168, vr b237, vr sa114_] [] _
     refine XS.iconst X269.here hx rfl (hb hby at_220) ?_
     show S_ p e below T269 m 221 #[vi k_, .val (.int (k_ &&& (3 : Int32))), vr sa114_, vr b168, vr b237, vr sa114_] [(ii 1)] _
     refine yG X269.here hx rfl 221 225 rfl (hb hby at_221) ?_
     show S_ p e below T269 m 225 #[vi k_, .val (.int (k_ &&& (3 : Int32))), vr sa114_, vr b168, vr b237, vr sa114_] [(ii 1)] _
     exact retN X269 hx (t := .boolean) Bd.returns (by simp) (hb hby at_225) hr
    ·show Q_law Z k_ sa101_ sa105_ sa110_ sa114_ sa118_ sa122_ sa128_ sa132_ sa138_ sa142_ sa148_ sa152_ sa158_ si162_ sv167_ sk171_ sk174_ sk177_ sk180_ sk183_ h0 n0 _ T269.heap _
     rw [K271]
     exact ⟨rfl, N270, kp262⟩
   ·have c272 : Kt p e below s₁ st0 (mkF m 152 #[vi k_, .val (.int (k_ &&& (3 : Int32))), u_, u_, u_, u_] []) := fun t k => by
     refine c163 t ?_
     show S_ p e below s₁ m 89 #[vi k_, .val (.int (k_ &&& (3 : Int32))), u_, u_, u_, u_] [(ii 2), (.int (k_ &&& (3 : Int32)))] t
     refine yC X0.here hx rfl 89 152 rfl (hb hby at_89) rfl (feq hc164).2 ?_
     exact k
    obtain ⟨T273, X273, e273, c273⟩ := kgetS X0 hx hZ hown (host := "") (Or.inl (w72 hw)) Via.refl e0 (ZS8_.ext O0.2) c272 rfl (hb hby at_152)
    have c274 : Kt p e below T273 st0 (mkF m 157 #[vi k_, .val (.int (k_ &&& (3 : Int32))), vr sa118_, u_, u_, u_] [(ii 5)]) := fun t k => by
     refine c273 t ?_
     show S_ p e below T273 m 155 #[vi k_, .val (.int (k_ &&& (3 : Int32))), u_, u_, u_, u_] [(rr sa118_)] t
     refine XS.astoreN X273.here hx rfl (hb hby at_155) rfl rfl (l' := #[vi k_, .val (.int (k_ &&& (3 : Int32))), vr sa118_, u_, u_, u_]) rfl ?_
     show S_ p e below T273 m 156 #[vi k_, .val (.int (k_ &&& (3 : Int32))), vr sa118_, u_, u_, u_] [] t
     refine XS.iconst X273.here hx rfl (hb hby at_156) ?_
     exact k
    obtain ⟨b275, T275, h275, k275, z275, g275, X275, e275, E275, o276, A275, c275⟩ := knewP (aty := .char) X273 hx hZ (w3 hw) e273 c274 rfl (hb hby at_157) rfl (by decide) 5 (by decide) (by decide) (by decide) (by decide) O0
    have kp278 := kp0.ext E275
    have z279 := Nat.le_trans kp0.1 z275
    have f277 : Arv Z h275 b275 k275 .char (5 : Int32) [(ii 0), (ii 0), (ii 0), (ii 0), (ii 0)] (ii 0) := A275.pad (pad_rep [] (ii 0) 5)
    have c280 : Kt p e below T275 st0 (mkF m 163 #[vi k_, .val (.int (k_ &&& (3 : Int32))), vr sa118_, u_, u_, u_] [(ii 101), (ii 0), (rr b275), (rr b275)]) := fun t k => by
     refine c275 t ?_
     show S_ p e below T275 m 159 #[vi k_, .val (.int (k_ &&& (3 : Int32))), vr sa118_, u_, u_, u_] [(rr b275)] t
     refine XS.dup X275.here hx rfl (hb hby at_159) rfl rfl ?_
     show S_ p e below T275 m 160 #[vi k_, .val (.int (k_ &&& (3 : Int32))), vr sa118_, u_, u_, u_] [(rr b275), (rr b275)] t
     refine XS.iconst X275.here hx rfl (hb hby at_160) ?_
     show S_ p e below T275 m 161 #[vi k_, .val (.int (k_ &&& (3 : Int32))), vr sa118_, u_, u_, u_] [(ii 0), (rr b275), (rr b275)] t
     refine XS.bipush X275.here hx rfl (hb hby at_161) ?_
     exact k
    obtain ⟨T281, h281, X281, e281, W281, f284, o282, N283, c281⟩ := kstC X275 hx hZ e275 f277 (j := (0 : Int32)) (by decide) (by decide) 0 rfl (Nat.le_of_ble_eq_true rfl) c280 rfl rfl (hb hby at_163) o276 N0 g275
    have f285 : Arv Z h281 b275 k275 .char (5 : Int32) [(ii 101), (ii 0), (ii 0), (ii 0), (ii 0)] (ii 0) := f284
    have kp286 := kp278.wr W281 (Or.inr z279)
    have c287 : Kt p e below T281 st0 (mkF m 168 #[vi k_, .val (.int (k_ &&& (3 : Int32))), vr sa118_, u_, u_, u_] [(ii 114), (ii 1), (rr b275), (rr b275)]) := fun t k => by
     refine c281 t ?_
     show S_ p e below T281 m 164 #[vi k_, .val (.int (k_ &&& (3 : Int32))), vr sa118_, u_, u_, u_] [(rr b275)] t
     refine XS.dup X281.here hx rfl (hb hby at_164) rfl rfl ?_
     show S_ p e below T281 m 165 #[vi k_, .val (.int (k_ &&& (3 : Int32))), vr sa118_, u_, u_, u_] [(rr b275), (rr b275)] t
     refine XS.iconst X281.here hx rfl (hb hby at_165) ?_
     show S_ p e below T281 m 166 #[vi k_, .val (.int (k_ &&& (3 : Int32))), vr sa118_, u_, u_, u_] [(ii 1), (rr b275), (rr b275)] t
     refine XS.bipush X281.here hx rfl (hb hby at_166) ?_
     exact k
    obtain ⟨T288, h288, X288, e288, W288, f291, o289, N290, c288⟩ := kstC X281 hx hZ e281 f285 (j := (1 : Int32)) (by decide) (by decide) 1 rfl (Nat.le_of_ble_eq_true rfl) c287 rfl rfl (hb hby at_168) o282 N283 g275
    have f292 : Arv Z h288 b275 k275 .char (5 : Int32) [(ii 101), (ii 114), (ii 0), (ii 0), (ii 0)] (ii 0) := f291
    have kp293 := kp286.wr W288 (Or.inr z279)
    have c294 : Kt p e below T288 st0 (mkF m 173 #[vi k_, .val (.int (k_ &&& (3 : Int32))), vr sa118_, u_, u_, u_] [(ii 114), (ii 2), (rr b275), (rr b275)]) := fun t k => by
     refine c288 t ?_
     show S_ p e below T288 m 169 #[vi k_, .val (.int (k_ &&& (3 : Int32))), vr sa118_, u_, u_, u_] [(rr b275)] t
     refine XS.dup X288.here hx rfl (hb hby at_169) rfl rfl ?_
     show S_ p e below T288 m 170 #[vi k_, .val (.int (k_ &&& (3 : Int32))), vr sa118_, u_, u_, u_] [(rr b275), (rr b275)] t
     refine XS.iconst X288.here hx rfl (hb hby at_170) ?_
     show S_ p e below T288 m 171 #[vi k_, .val (.int (k_ &&& (3 : Int32))), vr sa118_, u_, u_, u_] [(ii 2), (rr b275), (rr b275)] t
     refine XS.bipush X288.here hx rfl (hb hby at_171) ?_
     exact k
    obtain ⟨T295, h295, X295, e295, W295, f298, o296, N297, c295⟩ := kstC X288 hx hZ e288 f292 (j := (2 : Int32)) (by decide) (by decide) 2 rfl (Nat.le_of_ble_eq_true rfl) c294 rfl rfl (hb hby at_173) o289 N290 g275
    have f299 : Arv Z h295 b275 k275 .char (5 : Int32) [(ii 101), (ii 114), (ii 114), (ii 0), (ii 0)] (ii 0) := f298
    have kp300 := kp293.wr W295 (Or.inr z279)
    have c301 : Kt p e below T295 st0 (mkF m 178 #[vi k_, .val (.int (k_ &&& (3 : Int32))), vr sa118_, u_, u_, u_] [(ii 111), (ii 3), (rr b275), (rr b275)]) := fun t k => by
     refine c295 t ?_
     show S_ p e below T295 m 174 #[vi k_, .val (.int (k_ &&& (3 : Int32))), vr sa118_, u_, u_, u_] [(rr b275)] t
     refine XS.dup X295.here hx rfl (hb hby at_174) rfl rfl ?_
     show S_ p e below T295 m 175 #[vi k_, .val (.int (k_ &&& (3 : Int32))), vr sa118_, u_, u_, u_] [(rr b275), (rr b275)] t
     refine XS.iconst X295.here hx rfl (hb hby at_175) ?_
     show S_ p e below T295 m 176 #[vi k_, .val (.int (k_ &&& (3 : Int32))), vr sa118_, u_, u_, u_] [(ii 3), (rr b275), (rr b275)] t
     refine XS.bipush X295.here hx rfl (hb hby at_176) ?_
     exact k
    obtain ⟨T302, h302, X302, e302, W302, f305, o303, N304, c302⟩ := kstC X295 hx hZ e295 f299 (j := (3 : Int32)) (by decide) (by decide) 3 rfl (Nat.le_of_ble_eq_true rfl) c301 rfl rfl (hb hby at_178) o296 N297 g275
    have f306 : Arv Z h302 b275 k275 .char (5 : Int32) [(ii 101), (ii 114), (ii 114), (ii 111), (ii 0)] (ii 0) := f305
    have kp307 := kp300.wr W302 (Or.inr z279)
    have c308 : Kt p e below T302 st0 (mkF m 183 #[vi k_, .val (.int (k_ &&& (3 : Int32))), vr sa118_, u_, u_, u_] [(ii 114), (ii 4), (rr b275), (rr b275)]) := fun t k => by
     refine c302 t ?_
     show S_ p e below T302 m 179 #[vi k_, .val (.int (k_ &&& (3 : Int32))), vr sa118_, u_, u_, u_] [(rr b275)] t
     refine XS.dup X302.here hx rfl (hb hby at_179) rfl rfl ?_
     show S_ p e below T302 m 180 #[vi k_, .val (.int (k_ &&& (3 : Int32))), vr sa118_, u_, u_, u_] [(rr b275), (rr b275)] t
     refine XS.iconst X302.here hx rfl (hb hby at_180) ?_
     show S_ p e below T302 m 181 #[vi k_, .val (.int (k_ &&& (3 : Int32))), vr sa118_, u_, u_, u_] [(ii 4), (rr b275), (rr b275)] t
     refine XS.bipush X302.here hx rfl (hb hby at_181) ?_
     exact k
    obtain ⟨T309, h309, X309, e309, W309, f312, o310, N311, c309⟩ := kstC X302 hx hZ e302 f306 (j := (4 : Int32)) (by decide) (by decide) 4 rfl (Nat.le_of_ble_eq_true rfl) c308 rfl rfl (hb hby at_183) o303 N304 g275
    have f313 : Arv Z h309 b275 k275 .char (5 : Int32) [(ii 101), (ii 114), (ii 114), (ii 111), (ii 114)] (ii 0) := f312
    have kp314 := kp307.wr W309 (Or.inr z279)
    have c315 : Kt p e below T309 st0 (mkF m 185 #[vi k_, .val (.int (k_ &&& (3 : Int32))), vr sa118_, vr b275, u_, u_] []) := fun t k => by
     refine c309 t ?_
     show S_ p e below T309 m 184 #[vi k_, .val (.int (k_ &&& (3 : Int32))), vr sa118_, u_, u_, u_] [(rr b275)] t
     refine XS.astoreN X309.here hx rfl (hb hby at_184) rfl rfl (l' := #[vi k_, .val (.int (k_ &&& (3 : Int32))), vr sa118_, vr b275, u_, u_]) rfl ?_
     exact k
    obtain ⟨b316, T316, h316, z316, g316, X316, e316, E316, o317, A316, D316, U316, c316⟩ := knew X309 hx hZ hown (w4 hw) (w5 hw) (w6 hw) e309 c315 rfl (hb hby at_185) (by decide) (by decide) o310
    have kp318 := kp314.ext E316
    have z319 := Nat.le_trans kp314.1 z316
    have c320 : Kt p e below T316 st0 (mkF m 190 #[vi k_, .val (.int (k_ &&& (3 : Int32))), vr sa118_, vr b275, u_, u_] [(rr b275), (rr b316), (rr b316)]) := fun t k => by
     refine c316 t ?_
     show S_ p e below T316 m 188 #[vi k_, .val (.int (k_ &&& (3 : Int32))), vr sa118_, vr b275, u_, u_] [(rr b316)] t
     refine XS.dup X316.here hx rfl (hb hby at_188) rfl rfl ?_
     show S_ p e below T316 m 189 #[vi k_, .val (.int (k_ &&& (3 : Int32))), vr sa118_, vr b275, u_, u_] [(rr b316), (rr b316)] t
     refine XS.aloadN X316.here hx rfl (hb hby at_189) rfl rfl ?_
     exact k
    obtain ⟨_, T321, L321, X321, hQ321, c321⟩ := kspec X316 hx hZ hown (w7 hw) (w8 hw) (w6 hw) (w9 hw) (rm_str1_error l Z a0 hw [] b316 b275 k275 si162_ h316 n0 o317 A316 (show Fld Z h316 b316 nm1 "value" "[B" .null from D316 (Or.inr (w32 hw)) (ty := (.array .byte)) (by decide)) (show Fld Z h316 b316 nm1 "coder" "B" (ii 0) from D316 (Or.inr (w30 hw)) (ty := .byte) (by decide)) g316 (f313.ext E316) ZS26_ sn165_) e316 c320 hml pd_pACrV b316 [(rr b275)] [(rr b316)] 1 (hb hby at_190) rfl rfl rfl rfl rfl rfl
    obtain ⟨rfl, N322q, K323, p324, p325, b326, k327, p328, p329, p330, p331⟩ := hQ321
    have N322 := Fr.app N311 N322q
    have o332 := o317.keep K323 (allS g316 all0)
    have kp333 := kp318.trans K323 (allS (Or.inr z319) all0)
    have z334 := Nat.le_trans kp318.1 p331
    have g335 := Nat.le_trans (Nat.le_trans (Nat.le_of_eq o317.1.symm) o317.2.1) p331
    have c336 : Kt p e below T321 st0 (mkF m 197 #[vi k_, .val (.int (k_ &&& (3 : Int32))), vr sa118_, vr b275, vr b316, u_] [(rr b316)]) := fun t k => by
     refine c321 t ?_
     show S_ p e below T321 m 193 #[vi k_, .val (.int (k_ &&& (3 : Int32))), vr sa118_, vr b275, u_, u_] [(rr b316)] t
     refine XS.astore X321.here hx rfl (hb hby at_193) rfl rfl (l' := #[vi k_, .val (.int (k_ &&& (3 : Int32))), vr sa118_, vr b275, vr b316, u_]) rfl ?_
     show S_ p e below T321 m 195 #[vi k_, .val (.int (k_ &&& (3 : Int32))), vr sa118_, vr b275, vr b316, u_] [] t
     refine XS.aload X321.here hx rfl (hb hby at_195) rfl rfl ?_
     exact k
    obtain ⟨_, T337, L337, X337, hQ337, c337⟩ := kstat X321 hx hZ hown (w33 hw) (w34 hw) (w1 hw) (w35 hw) (rm_ofLabel_error l Z a0 hw [] b316 b326 k327 sa101_ sa105_ sa110_ sa114_ sa118_ sa122_ sa128_ sa132_ sa138_ sa142_ sa148_ sa152_ sa158_ si162_ sv167_ sk171_ sk174_ sk177_ sk180_ sk183_ T321.heap n0 o332 p324 p325 p328 p329 g316 ZS0_ ZE1_ ZS2_ ZE3_ ZS4_ ZE5_ ZS6_ ZE7_ ZS8_ ZE9_ ZF10_ ZE11_ ZF12_ ZF13_ ZF14_ ZE15_ ZF16_ ZF17_ ZF18_ ZE19_ ZF20_ ZF21_ ZF22_ ZE23_ ZF24_ ZF25_ ZS26_ sn165_ sv167_r ZS29_ ZA30_ ZA31_ ZA32_ ZA33_ ZA34_) rfl c336 hml pd_pLjava_lang_String_rLcom_example_elvina_elvina_monitor_Outcome_ [(rr b316)] [] 0 (hb hby at_197) rfl rfl rfl rfl rfl rfl
    obtain ⟨rfl, N338q, K339⟩ := hQ337
    have N338 := Fr.app N322 N338q
    have o340 := o332.keep K339 all0
    have kp341 := kp333.trans K339 all0
    have c342 : Kt p e below T337 st0 (mkF m 209 #[vi k_, .val (.int (k_ &&& (3 : Int32))), vr sa118_, vr b275, vr b316, vr sa118_] [(rr sa118_)]) := fun t k => by
     refine c337 t ?_
     show S_ p e below T337 m 200 #[vi k_, .val (.int (k_ &&& (3 : Int32))), vr sa118_, vr b275, vr b316, u_] [(rr sa118_)] t
     refine XS.astore X337.here hx rfl (hb hby at_200) rfl rfl (l' := #[vi k_, .val (.int (k_ &&& (3 : Int32))), vr sa118_, vr b275, vr b316, vr sa118_]) rfl ?_
     show S_ p e below T337 m 202 #[vi k_, .val (.int (k_ &&& (3 : Int32))), vr sa118_, vr b275, vr b316, vr sa118_] [] t
     refine XS.aload X337.here hx rfl (hb hby at_202) rfl rfl ?_
     show S_ p e below T337 m 204 #[vi k_, .val (.int (k_ &&& (3 : Int32))), vr sa118_, vr b275, vr b316, vr sa118_] [(rr sa118_)] t
     refine XS.aloadN X337.here hx rfl (hb hby at_204) rfl rfl ?_
     show S_ p e below T337 m 205 #[vi k_, .val (.int (k_ &&& (3 : Int32))), vr sa118_, vr b275, vr b316, vr sa118_] [(rr sa118_), (rr sa118_)] t
     refine Jvm.RoadKit.acmp (g := (mkF m 205 #[vi k_, .val (.int (k_ &&& (3 : Int32))), vr sa118_, vr b275, vr b316, vr sa118_] [(rr sa118_), (rr sa118_)])) X337 hx rfl rfl rfl (pc0 := 205) (pc' := 208) (same := true) rfl (hb hby at_205) rfl (decide_eq_true rfl) (by decide) (by decide) ?_
     show S_ p e below T337 m 208 #[vi k_, .val (.int (k_ &&& (3 : Int32))), vr sa118_, vr b275, vr b316, vr sa118_] [] t
     refine XS.aloadN X337.here hx rfl (hb hby at_208) rfl rfl ?_
     exact k
    obtain ⟨_, T343, L343, X343, hQ343, c343⟩ := kvirt X337 hx hZ hown (w66 hw) (w67 hw) (w69 hw) (w68 hw) (w70 hw) (w1 hw) (rm_label l Z a0 hw [] sa118_ sa152_ T337.heap n0 o340 (ZF22_.ext o340.2)) rfl (ZE9_.ext o340.2) c342 hml pd_prLjava_lang_String_ [] [] 0 (hb hby at_209) rfl rfl rfl rfl rfl rfl
    obtain ⟨rfl, N344q, K345⟩ := hQ343
    have N344 := Fr.app N338 N344q
    have q346 := Nat.ne_of_lt (Nat.lt_of_lt_of_le ZE23_.lt (Nat.le_trans (Nat.le_of_eq O0.1) g316))
    have c347 : Kt p e below T343 st0 (mkF m 214 #[vi k_, .val (.int (k_ &&& (3 : Int32))), vr sa118_, vr b275, vr b316, vr sa118_] [(rr b316), (rr sa152_)]) := fun t k => by
     refine c343 t ?_
     show S_ p e below T343 m 212 #[vi k_, .val (.int (k_ &&& (3 : Int32))), vr sa118_, vr b275, vr b316, vr sa118_] [(rr sa152_)] t
     refine XS.aload X343.here hx rfl (hb hby at_212) rfl rfl ?_
     exact k
    obtain ⟨_, T348, L348, X348, hQ348, c348⟩ := kvirt X343 hx hZ hown (w71 hw) (w57 hw) (w59 hw) (w58 hw) (w60 hw) (w6 hw) (rm_seq_error l Z a0 hw [] sa152_ sa158_ sk183_ b316 b326 k327 si162_ T337.heap n0 o340 (ZE23_.ext o340.2) (ZF24_.ext o340.2) (ZF25_.ext o340.2) (ZA34_.ext o340.2) (p324.keep K339) (p325.keep K339 nin0) (p328.keep K339 nin0) (p329.keep K339 nin0) ZS26_ sn165_ q346) K345 (ZE23_.ext o340.2) c347 hml pd_pLjava_lang_Object_rZ [(rr b316)] [] 0 (hb hby at_214) rfl rfl rfl rfl rfl rfl
    obtain ⟨rfl, N349q, K350⟩ := hQ348
    have N349 := Fr.app N344 N349q
    obtain ⟨fs, hr, hrun, hended, hW, hsame⟩ := X348.leave (v := some (ii 1)) (fun h => by rw [Bd.returns] at h; cases h)
    refine ⟨_, _, c348 _ ?_, hrun, hended, _, _, rfl, ?_, ⟨_, rfl⟩, hW, hsame.mono (by decide) (by decide)⟩
    ·show S_ p e below T348 m 217 #[vi k_, .val (.int (k_ &&& (3 : Int32))), vr sa118_, vr b275, vr b316, vr sa118_] [(ii 1)] _
     refine XS.ifNo X348.here hx rfl (hb hby at_217) rfl rfl ?_
     show S_ p e below T348 m 220 #[vi k_, .val (.int (k_ &&& (3 : Int32))), vr sa118_, vr b275, vr b316, vr sa118_] [] _
     refine XS.iconst X348.here hx rfl (hb hby at_220) ?_
     show S_ p e below T348 m 221 #[vi k_, .val (.int (k_ &&& (3 : Int32))), vr sa118_, vr b275, vr b316, vr sa118_] [(ii 1)] _
     refine yG X348.here hx rfl 221 225 rfl (hb hby at_221) ?_
     show S_ p e below T348 m 225 #[vi k_, .val (.int (k_ &&& (3 : Int32))), vr sa118_, vr b275, vr b316, vr sa118_] [(ii 1)] _
     exact retN X348 hx (t := .boolean) Bd.returns (by simp) (hb hby at_225) hr
    ·show Q_law Z k_ sa101_ sa105_ sa110_ sa114_ sa118_ sa122_ sa128_ sa132_ sa138_ sa142_ sa148_ sa152_ sa158_ si162_ sv167_ sk171_ sk174_ sk177_ sk180_ sk183_ h0 n0 _ T348.heap _
     rw [K350]
     exact ⟨rfl, N349, kp341⟩
set_option maxRecDepth 65536 in
set_option maxHeartbeats 40000000 in
theorem comes_1 {Post : Tables → Env → Array Value → State → Outcome → State → Prop} (hpost : ∀ tb e args s v u, (limb_1_1.after args s (.returned v) u = true ∧ limb_1_2.after args s (.returned v) u = true ∧ True) → FrameEnd s (.returned v) u (Jvm.fieldLocs frame_1_writes args s ++ Jvm.arrayLocs frame_1_arrays args s ++ Jvm.staticLocs frame_1_statics s) 16 128 → Post tb e args s (.returned v) u) :
  ArmFor flags0 classFile x code maxLocals ret World_1 tables_1 room_1 Calls_1 rest_1 Pre_1 Post := by
 intro l hfl _ _ p e ha hc hk s m args below hf hA hF happ hP
 obtain ⟨hcalls, hrest, hpre⟩ := hP
 obtain ⟨-, -, -, hnamed, -, -, -, hat⟩ := (Spec.applies_iff hf).mp happ
 obtain ⟨hg, hn⟩ := and_e (Jvm.Cond.before_iff.mp (show (Jvm.Cond.and given_1 narrow_1).before args s = true from hpre))
 obtain ⟨ga0, gb0⟩ := and_e hg
 obtain ⟨wv0, rfl⟩ : ∃ wv0 : Value, args = #[wv0] := by
  have hs : args.size = 1 := by simpa [Jvm.Cond.value, given_1] using ga0
  obtain ⟨L⟩ := args
  match L, hs with
  | [wv0], _ => exact ⟨wv0, rfl⟩
 have hw := fun d (hd : d ∈ tables_1) => atoms_spec (ws := Jvm.Cond.code x code maxLocals ret :: tables_1) hat d (List.mem_cons_of_mem _ hd)
 have hfit : Fit s := fun {y c} hc i hi => by
  obtain ⟨ha, rfl⟩ := Array.getElem?_eq_some_iff.mp hc
  have q := List.all_eq_true.mp ((Array.all_eq_true_iff_forall_mem.mp hF) _ (Array.getElem_mem ha)) i (List.mem_range.mpr hi)
  simpa [Array.getElem?_eq_getElem hi] using q
 obtain ⟨hsets, hown0⟩ := atoms_of _ (rest_1_c_eq ▸ (show rest_1_c.before _ s = true from hrest))
 obtain ⟨i0, ei0⟩ := is_v gb0
 obtain rfl : wv0 = (.int i0) := Option.some.inj ei0
 obtain ⟨nw1_, nw2_⟩ := and_e hn
 obtain ⟨nw3_, nw4_⟩ := and_e nw2_
 obtain ⟨nw5_, nw6_⟩ := and_e nw4_
 obtain ⟨nw7_, nw8_⟩ := and_e nw6_
 obtain ⟨nw9_, nw10_⟩ := and_e nw8_
 obtain ⟨nw11_, nw12_⟩ := and_e nw10_
 obtain ⟨nw13_, nw14_⟩ := and_e nw12_
 obtain ⟨nw15_, nw16_⟩ := and_e nw14_
 obtain ⟨nw17_, nw18_⟩ := and_e nw16_
 obtain ⟨nw19_, nw20_⟩ := and_e nw18_
 obtain ⟨nw21_, nw22_⟩ := and_e nw20_
 obtain ⟨nw23_, nw24_⟩ := and_e nw22_
 obtain ⟨nw25_, nw26_⟩ := and_e nw24_
 obtain ⟨nw27_, nw28_⟩ := and_e nw26_
 obtain ⟨nw29_, nw30_⟩ := and_e nw28_
 obtain ⟨nw31_, nw32_⟩ := and_e nw30_
 obtain ⟨nw33_, nw34_⟩ := and_e nw32_
 obtain ⟨nw35_, nw36_⟩ := and_e nw34_
 obtain ⟨nw37_, nw38_⟩ := and_e nw36_
 obtain ⟨nw39_, nw40_⟩ := and_e nw38_
 obtain ⟨nw41_, nw42_⟩ := and_e nw40_
 obtain ⟨nw43_, nw44_⟩ := and_e nw42_
 obtain ⟨nw45_, nw46_⟩ := and_e nw44_
 obtain ⟨nw47_, nw48_⟩ := and_e nw46_
 obtain ⟨nw49_, nw50_⟩ := and_e nw48_
 obtain ⟨nw51_, nw52_⟩ := and_e nw50_
 obtain ⟨nw53_, nw54_⟩ := and_e nw52_
 obtain ⟨nw55_, nw56_⟩ := and_e nw54_
 obtain ⟨nw57_, nw58_⟩ := and_e nw56_
 obtain ⟨nw59_, nw60_⟩ := and_e nw58_
 obtain ⟨nw61_, nw62_⟩ := and_e nw60_
 obtain ⟨nw63_, nw64_⟩ := and_e nw62_
 obtain ⟨nw65_, nw66_⟩ := and_e nw64_
 obtain ⟨nw67_, nw68_⟩ := and_e nw66_
 obtain ⟨nw69_, nw70_⟩ := and_e nw68_
 obtain ⟨nw71_, nw72_⟩ := and_e nw70_
 obtain ⟨nw73_, nw74_⟩ := and_e nw72_
 obtain ⟨nw75_, nw76_⟩ := and_e nw74_
 obtain ⟨nw77_, nw78_⟩ := and_e nw76_
 obtain ⟨nw79_, nw80_⟩ := and_e nw78_
 obtain ⟨nw81_, nw82_⟩ := and_e nw80_
 obtain ⟨nw83_, nw84_⟩ := and_e nw82_
 obtain ⟨nw85_, nw86_⟩ := and_e nw84_
 obtain ⟨nw87_, nw88_⟩ := and_e nw86_
 obtain ⟨nw89_, nw90_⟩ := and_e nw88_
 obtain ⟨nw91_, nw92_⟩ := and_e nw90_
 obtain ⟨nw93_, nw94_⟩ := and_e nw92_
 obtain ⟨nw95_, nw96_⟩ := and_e nw94_
 obtain ⟨nw97_, nw98_⟩ := and_e nw96_
 obtain ⟨nw99_, nw100_⟩ := and_e nw98_
 obtain ⟨sa101_, se102_⟩ := exa_v nw1_
 have sf103_ : Sta s s.heap nm0 "NEW" nm2 (rr sa101_) := Sta.start se102_ (Or.inr ⟨(w1 hw), (w2 hw)⟩)
 have sf104_ : Exa s s.heap sa101_ nm0 := Exa.start se102_ nw1_
 obtain ⟨sa105_, se106_⟩ := arr_v nw3_
 have sf107_ : Sta s s.heap nm0 "$VALUES" nm3 (rr sa105_) := Sta.start se106_ (Or.inl (w51 hw))
 obtain ⟨sc108_, sc108_r⟩ := Arr.start se106_ nw3_
 have sf109_ : Exa s s.heap sa105_ nm3 := Exa.start se106_ nw5_
 obtain ⟨sa110_, se111_⟩ := exa_v nw11_
 have sf112_ : Sta s s.heap nm0 "CHANGED" nm2 (rr sa110_) := Sta.start se111_ (Or.inr ⟨(w1 hw), (w48 hw)⟩)
 have sf113_ : Exa s s.heap sa110_ nm0 := Exa.start se111_ nw11_
 obtain ⟨sa114_, se115_⟩ := exa_v nw15_
 have sf116_ : Sta s s.heap nm0 "UNCHANGED" nm2 (rr sa114_) := Sta.start se115_ (Or.inr ⟨(w1 hw), (w49 hw)⟩)
 have sf117_ : Exa s s.heap sa114_ nm0 := Exa.start se115_ nw15_
 obtain ⟨sa118_, se119_⟩ := exa_v nw19_
 have sf120_ : Sta s s.heap nm0 "ERROR" nm2 (rr sa118_) := Sta.start se119_ (Or.inr ⟨(w1 hw), (w50 hw)⟩)
 have sf121_ : Exa s s.heap sa118_ nm0 := Exa.start se119_ nw19_
 obtain ⟨sa122_, se123_⟩ := exa_v nw23_
 have sf124_ : Fld s s.heap sa101_ nm0 "label" nm7 (rr sa122_) := Fld.start ((fld_at se102_).symm.trans se123_)
 have sf125_ : Exa s s.heap sa122_ nm1 := Exa.start se123_ nw23_
 have se126_ : (Jvm.Term.field (Jvm.Term.field (Jvm.Term.static nm0 "NEW" nm2) nm0 "label" nm7) nm1 "coder" "B").eval _ s none [] s = some (ii 0) := (Jvm.Cond.eq_int (beq_iff_eq.mpr nw25_) (Term.int_eval _))
 have sf127_ : Fld s s.heap sa122_ nm1 "coder" "B" (ii 0) := Fld.start ((fld_at se123_).symm.trans se126_)
 obtain ⟨sa128_, se129_⟩ := arr_v nw27_
 have sf130_ : Fld s s.heap sa122_ nm1 "value" "[B" (rr sa128_) := Fld.start ((fld_at se123_).symm.trans se129_)
 obtain ⟨sc131_, sc131_r⟩ := Arr.start se129_ nw27_
 obtain ⟨sa132_, se133_⟩ := exa_v nw37_
 have sf134_ : Fld s s.heap sa110_ nm0 "label" nm7 (rr sa132_) := Fld.start ((fld_at se111_).symm.trans se133_)
 have sf135_ : Exa s s.heap sa132_ nm1 := Exa.start se133_ nw37_
 have se136_ : (Jvm.Term.field (Jvm.Term.field (Jvm.Term.static nm0 "CHANGED" nm2) nm0 "label" nm7) nm1 "coder" "B").eval _ s none [] s = some (ii 0) := (Jvm.Cond.eq_int (beq_iff_eq.mpr nw39_) (Term.int_eval _))
 have sf137_ : Fld s s.heap sa132_ nm1 "coder" "B" (ii 0) := Fld.start ((fld_at se133_).symm.trans se136_)
 obtain ⟨sa138_, se139_⟩ := arr_v nw41_
 have sf140_ : Fld s s.heap sa132_ nm1 "value" "[B" (rr sa138_) := Fld.start ((fld_at se133_).symm.trans se139_)
 obtain ⟨sc141_, sc141_r⟩ := Arr.start se139_ nw41_
 obtain ⟨sa142_, se143_⟩ := exa_v nw45_
 have sf144_ : Fld s s.heap sa114_ nm0 "label" nm7 (rr sa142_) := Fld.start ((fld_at se115_).symm.trans se143_)
 have sf145_ : Exa s s.heap sa142_ nm1 := Exa.start se143_ nw45_
 have se146_ : (Jvm.Term.field (Jvm.Term.field (Jvm.Term.static nm0 "UNCHANGED" nm2) nm0 "label" nm7) nm1 "coder" "B").eval _ s none [] s = some (ii 0) := (Jvm.Cond.eq_int (beq_iff_eq.mpr nw47_) (Term.int_eval _))
 have sf147_ : Fld s s.heap sa142_ nm1 "coder" "B" (ii 0) := Fld.start ((fld_at se143_).symm.trans se146_)
 obtain ⟨sa148_, se149_⟩ := arr_v nw49_
 have sf150_ : Fld s s.heap sa142_ nm1 "value" "[B" (rr sa148_) := Fld.start ((fld_at se143_).symm.trans se149_)
 obtain ⟨sc151_, sc151_r⟩ := Arr.start se149_ nw49_
 obtain ⟨sa152_, se153_⟩ := exa_v nw53_
 have sf154_ : Fld s s.heap sa118_ nm0 "label" nm7 (rr sa152_) := Fld.start ((fld_at se119_).symm.trans se153_)
 have sf155_ : Exa s s.heap sa152_ nm1 := Exa.start se153_ nw53_
 have se156_ : (Jvm.Term.field (Jvm.Term.field (Jvm.Term.static nm0 "ERROR" nm2) nm0 "label" nm7) nm1 "coder" "B").eval _ s none [] s = some (ii 0) := (Jvm.Cond.eq_int (beq_iff_eq.mpr nw55_) (Term.int_eval _))
 have sf157_ : Fld s s.heap sa152_ nm1 "coder" "B" (ii 0) := Fld.start ((fld_at se153_).symm.trans se156_)
 obtain ⟨sa158_, se159_⟩ := arr_v nw57_
 have sf160_ : Fld s s.heap sa152_ nm1 "value" "[B" (rr sa158_) := Fld.start ((fld_at se153_).symm.trans se159_)
 obtain ⟨sc161_, sc161_r⟩ := Arr.start se159_ nw57_
 obtain ⟨si162_, se163_⟩ := is_v (Jvm.Cond.before_iff.mp (hsets _ (List.mem_of_getElem? (i := 1) rfl)))
 have sf164_ : Sta s s.heap nm1 "COMPACT_STRINGS" "Z" (.int si162_) := Sta.start se163_ (Or.inl (hsets _ (List.mem_of_getElem? (i := 0) rfl)))
 have sr166_ : ¬ (si162_ = (0 : Int32)) := gotF (Jvm.Cond.eq_ints se163_ (Term.int_eval _)) (not_v (Jvm.Cond.before_iff.mp (hsets _ (List.mem_of_getElem? (i := 2) rfl))))
 obtain ⟨sv167_, se168_, sv167_r⟩ := isR_v (Jvm.Cond.before_iff.mp (hsets _ (List.mem_of_getElem? (i := 8) rfl)))
 have sf169_ : Sta s s.heap "jdk/internal/util/Preconditions" "SIOOBE_FORMATTER" "Ljava/util/function/BiFunction;" sv167_ := Sta.start se168_ (Or.inl (hsets _ (List.mem_of_getElem? (i := 7) rfl)))
 obtain ⟨sl170_a, sl170_b⟩ := own_len se106_ sc108_r (Jvm.Cond.eq_int (beq_iff_eq.mpr nw7_) (Term.int_eval _))
 obtain ⟨sk171_, sk171_q⟩ : ∃ z, z = sc108_.cls := ⟨_, rfl⟩
 have sf172_ : Arv s s.heap sa105_ sk171_ (.object nm0) (4 : Int32) [(rr sa101_), (rr sa110_), (rr sa114_), (rr sa118_)] .null := by rw [sk171_q]; exact Arv.start hfit sc108_r sl170_a sl170_b (by decide) rfl ⟨(elem_in (Jvm.Cond.eq_refs (beq_iff_eq.mpr nw9_) se102_ rfl) se106_ (Term.int_eval _) sc108_r.1).2, ⟨(elem_in (Jvm.Cond.eq_refs (beq_iff_eq.mpr nw13_) se111_ rfl) se106_ (Term.int_eval _) sc108_r.1).2, ⟨(elem_in (Jvm.Cond.eq_refs (beq_iff_eq.mpr nw17_) se115_ rfl) se106_ (Term.int_eval _) sc108_r.1).2, ⟨(elem_in (Jvm.Cond.eq_refs (beq_iff_eq.mpr nw21_) se119_ rfl) se106_ (Term.int_eval _) sc108_r.1).2, trivial⟩⟩⟩⟩
 obtain ⟨sl173_a, sl173_b⟩ := own_len se129_ sc131_r (Jvm.Cond.eq_int (beq_iff_eq.mpr nw29_) (Term.int_eval _))
 obtain ⟨sk174_, sk174_q⟩ : ∃ z, z = sc131_.cls := ⟨_, rfl⟩
 have sf175_ : Arv s s.heap sa128_ sk174_ .byte (3 : Int32) [(ii 110), (ii 101), (ii 119)] (ii 0) := by rw [sk174_q]; exact Arv.start hfit sc131_r sl173_a sl173_b (by decide) rfl ⟨(elem_in (Jvm.Cond.eq_int (beq_iff_eq.mpr nw31_) (Term.int_eval _)) se129_ (Term.int_eval _) sc131_r.1).2, ⟨(elem_in (Jvm.Cond.eq_int (beq_iff_eq.mpr nw33_) (Term.int_eval _)) se129_ (Term.int_eval _) sc131_r.1).2, ⟨(elem_in (Jvm.Cond.eq_int (beq_iff_eq.mpr nw35_) (Term.int_eval _)) se129_ (Term.int_eval _) sc131_r.1).2, trivial⟩⟩⟩
 obtain ⟨sl176_a, sl176_b⟩ := own_len se139_ sc141_r (Jvm.Cond.eq_int (beq_iff_eq.mpr nw43_) (Term.int_eval _))
 obtain ⟨sk177_, sk177_q⟩ : ∃ z, z = sc141_.cls := ⟨_, rfl⟩
 have sf178_ : Arv s s.heap sa138_ sk177_ .byte (7 : Int32) [(ii 99), (ii 104), (ii 97), (ii 110), (ii 103), (ii 101), (ii 100)] (ii 0) := by rw [sk177_q]; exact Arv.start hfit sc141_r sl176_a sl176_b (by decide) rfl ⟨(elem_in (Jvm.Cond.eq_int (beq_iff_eq.mpr nw61_) (Term.int_eval _)) se139_ (Term.int_eval _) sc141_r.1).2, ⟨(elem_in (Jvm.Cond.eq_int (beq_iff_eq.mpr nw63_) (Term.int_eval _)) se139_ (Term.int_eval _) sc141_r.1).2, ⟨(elem_in (Jvm.Cond.eq_int (beq_iff_eq.mpr nw65_) (Term.int_eval _)) se139_ (Term.int_eval _) sc141_r.1).2, ⟨(elem_in (Jvm.Cond.eq_int (beq_iff_eq.mpr nw67_) (Term.int_eval _)) se139_ (Term.int_eval _) sc141_r.1).2, ⟨(elem_in (Jvm.Cond.eq_int (beq_iff_eq.mpr nw69_) (Term.int_eval _)) se139_ (Term.int_eval _) sc141_r.1).2, ⟨(elem_in (Jvm.Cond.eq_int (beq_iff_eq.mpr nw71_) (Term.int_eval _)) se139_ (Term.int_eval _) sc141_r.1).2, ⟨(elem_in (Jvm.Cond.eq_int (beq_iff_eq.mpr nw73_) (Term.int_eval _)) se139_ (Term.int_eval _) sc141_r.1).2, trivial⟩⟩⟩⟩⟩⟩⟩
 obtain ⟨sl179_a, sl179_b⟩ := own_len se149_ sc151_r (Jvm.Cond.eq_int (beq_iff_eq.mpr nw51_) (Term.int_eval _))
 obtain ⟨sk180_, sk180_q⟩ : ∃ z, z = sc151_.cls := ⟨_, rfl⟩
 have sf181_ : Arv s s.heap sa148_ sk180_ .byte (9 : Int32) [(ii 117), (ii 110), (ii 99), (ii 104), (ii 97), (ii 110), (ii 103), (ii 101), (ii 100)] (ii 0) := by rw [sk180_q]; exact Arv.start hfit sc151_r sl179_a sl179_b (by decide) rfl ⟨(elem_in (Jvm.Cond.eq_int (beq_iff_eq.mpr nw75_) (Term.int_eval _)) se149_ (Term.int_eval _) sc151_r.1).2, ⟨(elem_in (Jvm.Cond.eq_int (beq_iff_eq.mpr nw77_) (Term.int_eval _)) se149_ (Term.int_eval _) sc151_r.1).2, ⟨(elem_in (Jvm.Cond.eq_int (beq_iff_eq.mpr nw79_) (Term.int_eval _)) se149_ (Term.int_eval _) sc151_r.1).2, ⟨(elem_in (Jvm.Cond.eq_int (beq_iff_eq.mpr nw81_) (Term.int_eval _)) se149_ (Term.int_eval _) sc151_r.1).2, ⟨(elem_in (Jvm.Cond.eq_int (beq_iff_eq.mpr nw83_) (Term.int_eval _)) se149_ (Term.int_eval _) sc151_r.1).2, ⟨(elem_in (Jvm.Cond.eq_int (beq_iff_eq.mpr nw85_) (Term.int_eval _)) se149_ (Term.int_eval _) sc151_r.1).2, ⟨(elem_in (Jvm.Cond.eq_int (beq_iff_eq.mpr nw87_) (Term.int_eval _)) se149_ (Term.int_eval _) sc151_r.1).2, ⟨(elem_in (Jvm.Cond.eq_int (beq_iff_eq.mpr nw89_) (Term.int_eval _)) se149_ (Term.int_eval _) sc151_r.1).2, ⟨(elem_in (Jvm.Cond.eq_int (beq_iff_eq.mpr nw91_) (Term.int_eval _)) se149_ (Term.int_eval _) sc151_r.1).2, trivial⟩⟩⟩⟩⟩⟩⟩⟩⟩
 obtain ⟨sl182_a, sl182_b⟩ := own_len se159_ sc161_r (Jvm.Cond.eq_int (beq_iff_eq.mpr nw59_) (Term.int_eval _))
 obtain ⟨sk183_, sk183_q⟩ : ∃ z, z = sc161_.cls := ⟨_, rfl⟩
 have sf184_ : Arv s s.heap sa158_ sk183_ .byte (5 : Int32) [(ii 101), (ii 114), (ii 114), (ii 111), (ii 114)] (ii 0) := by rw [sk183_q]; exact Arv.start hfit sc161_r sl182_a sl182_b (by decide) rfl ⟨(elem_in (Jvm.Cond.eq_int (beq_iff_eq.mpr nw93_) (Term.int_eval _)) se159_ (Term.int_eval _) sc161_r.1).2, ⟨(elem_in (Jvm.Cond.eq_int (beq_iff_eq.mpr nw95_) (Term.int_eval _)) se159_ (Term.int_eval _) sc161_r.1).2, ⟨(elem_in (Jvm.Cond.eq_int (beq_iff_eq.mpr nw97_) (Term.int_eval _)) se159_ (Term.int_eval _) sc161_r.1).2, ⟨(elem_in (Jvm.Cond.eq_int (beq_iff_eq.mpr nw99_) (Term.int_eval _)) se159_ (Term.int_eval _) sc161_r.1).2, ⟨(elem_in (Jvm.Cond.eq_int (beq_iff_eq.mpr nw100_) (Term.int_eval _)) se159_ (Term.int_eval _) sc161_r.1).2, trivial⟩⟩⟩⟩⟩
 obtain ⟨n, o, h1, h2, h3, _, L, rfl, ⟨rfl, N, -⟩, hq⟩ := rm_law l s _ hw tables_1 i0 sa101_ sa105_ sa110_ sa114_ sa118_ sa122_ sa128_ sa132_ sa138_ sa142_ sa148_ sa152_ sa158_ si162_ sv167_ sk171_ sk174_ sk177_ sk180_ sk183_ s.heap s.heap.size (Old.start s) sf103_ sf104_ sf107_ sf109_ sf112_ sf113_ sf116_ sf117_ sf120_ sf121_ sf124_ sf125_ sf127_ sf130_ sf134_ sf135_ sf137_ sf140_ sf144_ sf145_ sf147_ sf150_ sf154_ sf155_ sf157_ sf160_ sf164_ sr166_ sv167_r sf169_ sf172_ sf175_ sf178_ sf181_ sf184_ p e ha hc hk s m _ below hf ((Spec.applies_iff_loose hf).mp happ).1 ⟨rfl, State.Warmed39.refl s, rfl⟩ trivial
 refine ⟨n, _, h1, h2, h3, hpost _ _ _ _ _ _ ⟨Jvm.Cond.after_iff.mpr rfl, Jvm.Cond.after_iff.mpr (eq_i res_at (Term.int_eval (1)) rfl), trivial⟩ ⟨hq.1, hq.2.1, (hq.2.2.sift fun y hy => Or.inr (N y hy)).mono (by decide) (by decide)⟩⟩
theorem main_1_1 : Claimed_1_1 := comes_1 fun _ _ _ _ _ _ h hF => ⟨h.1, hF⟩
theorem main_1_2 : Claimed_1_2 := comes_1 fun _ _ _ _ _ _ h hF => ⟨h.2.1, hF⟩
end Jvm.Pilot.@@N@@
namespace Jvm.Pilot.@@N@@
open Jvm Jvm.ClassFile Sem Op Lib Jvm.Free Jvm.Stand Jvm.Pilot.@@N@@.Jvm.D
/-! MADE BY PROGRAM (witnessworld.py) out of the Statement's table words and the real class files: 22 classes; the members and pool entries that the words name. The judged class is class 1, her method 1. -/
namespace start1
open Jvm.ClassFile
def u (s : String) : CpInfo := .utf8 (stringToUtf16 s)
/-- a pool by its gaps: so many unusable entries, then the entry; so many at the end -/
def gap : Nat → List CpInfo → List CpInfo
  | 0, r => r
  | n + 1, r => .unusable :: gap n r
def poolList (es : List (Nat × CpInfo)) (last : Nat) : List CpInfo := es.foldr (fun e r => gap e.1 (e.2 :: r)) (gap last [])
def pool (es : List (Nat × CpInfo)) (last : Nat) : Array CpInfo := ⟨poolList es last⟩
def fileOf (pool : Array CpInfo) (this : Nat) (attrs : Array Attribute := #[]) (ms : Array MethodInfo := #[]) (fl : Nat := 33) (sup : Nat := 0) (ifs : Array Nat := #[]) (fds : Array FieldInfo := #[]) : ClassFile where
  minorVersion := 0
  majorVersion := 65
  constantPool := pool
  accessFlags := fl
  thisClass := this
  superClass := sup
  interfaces := ifs
  fields := fds
  methods := ms
  attributes := attrs
def plain (name : String) (sup : Option ClassId) : Class where
  name := name
  kind := .ordinary
  loader := none
  accessFlags := 33
  super := sup
  interfaces := #[]
  cf := none
  fields := #[]
  methods := #[]
  instanceTypes := #[]
  staticTypes := #[]
  resolved := #[]
  callSites := []
  init := .initialized
  statics := none
  mirror := none

def pool0 : Array CpInfo := pool [(5, u "<init>"), (0, u "()V"), (1, .class_ 10), (1, u "java/lang/Object"), (85, u "clone"), (0, u "()Ljava/lang/Object;")] 26

def k0c0 : Code := { maxStack := 0, maxLocals := 1, code := object_method_1_code, exceptionTable := #[], attributes := #[] }
def k0m0 : Method := { name := "<init>", desc := "()V", sig := { parameters := [], returnType := none }, accessFlags := 1, code := some k0c0 }
def k0m1 : Method := { name := "clone", desc := "()Ljava/lang/Object;", sig := { parameters := [], returnType := some (.object "java/lang/Object") }, accessFlags := 260, code := none }
/-- java/lang/Object -/
def k0 : Class := { plain "java/lang/Object" none with
  accessFlags := 33
  interfaces := #[]
  cf := some (fileOf pool0 8 #[] #[{ accessFlags := 1, nameIndex := 5, descriptorIndex := 6, attributes := #[] }, { accessFlags := 260, nameIndex := 96, descriptorIndex := 97, attributes := #[] }] 33 0 #[] #[])
  fields := #[]
  methods := #[k0m0, k0m1]
  instanceTypes := #[]
  staticTypes := #[]
  resolved := Array.replicate 124 none
  statics := none }

def pool1 : Array CpInfo := pool [(2, .class_ 4), (1, u "java/lang/Object"), (0, u "<init>"), (0, u "()V"), (0, .fieldref 8 9), (0, .class_ 10), (0, .nameAndType 11 12), (0, u "com/example/elvina/elvina/monitor/Outcome"), (0, u "NEW"), (0, u "Lcom/example/elvina/elvina/monitor/Outcome;"), (0, .fieldref 8 14), (0, .nameAndType 15 12), (0, u "CHANGED"), (0, .fieldref 8 17), (0, .nameAndType 18 12), (0, u "UNCHANGED"), (0, .fieldref 8 20), (0, .nameAndType 21 12), (0, u "ERROR"), (0, .class_ 23), (0, u "java/lang/String"), (0, .methodref 22 25), (0, .nameAndType 5 26), (0, u "([C)V"), (0, .methodref 8 28), (0, .nameAndType 29 30), (0, u "ofLabel"), (0, u "(Ljava/lang/String;)Lcom/example/elvina/elvina/monitor/Outcome;"), (0, .methodref 8 32), (0, .nameAndType 33 34), (0, u "label"), (0, u "()Ljava/lang/String;"), (0, .methodref 22 36), (0, .nameAndType 37 38), (0, u "equals"), (0, u "(Ljava/lang/Object;)Z"), (0, .class_ 40), (0, u "com/example/elvina/elvina/monitor/OutcomeOfLabelPinLaw"), (2, u "law"), (0, u "(I)Z")] 5

def k1m0 : Method := { name := "<init>", desc := "()V", sig := { parameters := [], returnType := none }, accessFlags := 1, code := none }
def k1c1 : Code := { maxStack := 4, maxLocals := 6, code := code, exceptionTable := #[], attributes := #[] }
def k1m1 : Method := { name := "law", desc := "(I)Z", sig := { parameters := [.int], returnType := some .boolean }, accessFlags := 9, code := some k1c1 }
/-- com/example/elvina/elvina/monitor/OutcomeOfLabelPinLaw -/
def k1 : Class := { plain "com/example/elvina/elvina/monitor/OutcomeOfLabelPinLaw" (some 0) with
  accessFlags := 49
  interfaces := #[]
  cf := some (fileOf pool1 39 #[] #[{ accessFlags := 1, nameIndex := 5, descriptorIndex := 6, attributes := #[] }, { accessFlags := 9, nameIndex := 43, descriptorIndex := 44, attributes := #[] }] 49 2 #[] #[])
  fields := #[]
  methods := #[k1m0, k1m1]
  instanceTypes := #[]
  staticTypes := #[]
  resolved := Array.replicate 50 none
  statics := none }

def pool2 : Array CpInfo := pool [(1, .class_ 2), (0, u "java/lang/constant/Constable"), (0, .class_ 4), (0, u "java/lang/Object")] 6

/-- java/lang/constant/Constable -/
def k2 : Class := { plain "java/lang/constant/Constable" (some 0) with
  accessFlags := 1537
  interfaces := #[]
  cf := some (fileOf pool2 1 #[] #[] 1537 3 #[] #[])
  fields := #[]
  methods := #[]
  instanceTypes := #[]
  staticTypes := #[]
  resolved := Array.replicate 11 none
  statics := none }

def pool3 : Array CpInfo := pool [(1, .class_ 2), (0, u "java/lang/Comparable"), (0, .class_ 4), (0, u "java/lang/Object")] 7

/-- java/lang/Comparable -/
def k3 : Class := { plain "java/lang/Comparable" (some 0) with
  accessFlags := 1537
  interfaces := #[]
  cf := some (fileOf pool3 1 #[] #[] 1537 3 #[] #[])
  fields := #[]
  methods := #[]
  instanceTypes := #[]
  staticTypes := #[]
  resolved := Array.replicate 12 none
  statics := none }

def pool4 : Array CpInfo := pool [(1, .class_ 2), (0, u "java/io/Serializable"), (0, .class_ 4), (0, u "java/lang/Object")] 2

/-- java/io/Serializable -/
def k4 : Class := { plain "java/io/Serializable" (some 0) with
  accessFlags := 1537
  interfaces := #[]
  cf := some (fileOf pool4 1 #[] #[] 1537 3 #[] #[])
  fields := #[]
  methods := #[]
  instanceTypes := #[]
  staticTypes := #[]
  resolved := Array.replicate 7 none
  statics := none }

def pool5 : Array CpInfo := pool [(2, .class_ 4), (1, u "java/lang/Enum"), (0, u "name"), (0, u "Ljava/lang/String;"), (2, u "ordinal"), (0, u "I"), (1, .class_ 14), (1, u "java/lang/Object"), (4, u "hash"), (86, .class_ 108), (1, u "java/lang/Enum$EnumDesc"), (2, .class_ 112), (0, u "java/lang/constant/Constable"), (0, .class_ 114), (0, u "java/lang/Comparable"), (0, .class_ 116), (0, u "java/io/Serializable")] 87

/-- java/lang/Enum -/
def k5 : Class := { plain "java/lang/Enum" (some 0) with
  accessFlags := 1057
  interfaces := #[2, 3, 4]
  cf := some (fileOf pool5 2 #[.nestMembers #[106]] #[] 1057 12 #[111, 113, 115] #[{ accessFlags := 18, nameIndex := 5, descriptorIndex := 6, attributes := #[] }, { accessFlags := 18, nameIndex := 9, descriptorIndex := 10, attributes := #[] }, { accessFlags := 2, nameIndex := 19, descriptorIndex := 10, attributes := #[] }])
  fields := #[{ name := "name", type := (.object "java/lang/String"), accessFlags := 18, slot := 0, constantValue := 0 }, { name := "ordinal", type := .int, accessFlags := 18, slot := 1, constantValue := 0 }, { name := "hash", type := .int, accessFlags := 2, slot := 2, constantValue := 0 }]
  methods := #[]
  instanceTypes := #[(.object "java/lang/String"), .int, .int]
  staticTypes := #[]
  resolved := Array.replicate 204 none
  statics := none }

def pool6 : Array CpInfo := pool [(1, .class_ 2), (0, u "com/example/elvina/elvina/monitor/Outcome"), (2, u "NEW"), (0, u "Lcom/example/elvina/elvina/monitor/Outcome;"), (2, u "CHANGED"), (2, u "UNCHANGED"), (2, u "ERROR"), (0, .fieldref 1 17), (0, .nameAndType 18 19), (0, u "$VALUES"), (0, u "[Lcom/example/elvina/elvina/monitor/Outcome;"), (0, .methodref 21 22), (0, .class_ 19), (0, .nameAndType 23 24), (0, u "clone"), (0, u "()Ljava/lang/Object;"), (1, .class_ 28), (1, u "java/lang/Enum"), (6, .fieldref 1 36), (0, .nameAndType 37 38), (0, u "label"), (0, u "Ljava/lang/String;"), (0, .methodref 1 40), (0, .nameAndType 41 42), (0, u "values"), (0, u "()[Lcom/example/elvina/elvina/monitor/Outcome;"), (0, .methodref 44 45), (0, .class_ 46), (0, .nameAndType 47 48), (0, u "java/lang/String"), (0, u "equals"), (0, u "(Ljava/lang/Object;)Z"), (29, u "(Ljava/lang/String;)Lcom/example/elvina/elvina/monitor/Outcome;"), (2, u "()Ljava/lang/String;"), (0, u "ofLabel")] 21

def k6c0 : Code := { maxStack := 1, maxLocals := 0, code := prog_9_method_1_code, exceptionTable := #[], attributes := #[] }
def k6m0 : Method := { name := "values", desc := "()[Lcom/example/elvina/elvina/monitor/Outcome;", sig := { parameters := [], returnType := some (.array (.object "com/example/elvina/elvina/monitor/Outcome")) }, accessFlags := 9, code := some k6c0 }
def k6c1 : Code := { maxStack := 1, maxLocals := 1, code := prog_9_method_4_code, exceptionTable := #[], attributes := #[] }
def k6m1 : Method := { name := "label", desc := "()Ljava/lang/String;", sig := { parameters := [], returnType := some (.object "java/lang/String") }, accessFlags := 1, code := some k6c1 }
def k6c2 : Code := { maxStack := 3, maxLocals := 5, code := prog_9_method_5_code, exceptionTable := #[], attributes := #[] }
def k6m2 : Method := { name := "ofLabel", desc := "(Ljava/lang/String;)Lcom/example/elvina/elvina/monitor/Outcome;", sig := { parameters := [(.object "java/lang/String")], returnType := some (.object "com/example/elvina/elvina/monitor/Outcome") }, accessFlags := 8, code := some k6c2 }
/-- com/example/elvina/elvina/monitor/Outcome -/
def k6 : Class := { plain "com/example/elvina/elvina/monitor/Outcome" (some 5) with
  accessFlags := 16433
  interfaces := #[]
  cf := some (fileOf pool6 1 #[] #[{ accessFlags := 9, nameIndex := 41, descriptorIndex := 42, attributes := #[] }, { accessFlags := 1, nameIndex := 37, descriptorIndex := 81, attributes := #[] }, { accessFlags := 8, nameIndex := 82, descriptorIndex := 78, attributes := #[] }] 16433 26 #[] #[{ accessFlags := 16409, nameIndex := 5, descriptorIndex := 6, attributes := #[] }, { accessFlags := 16409, nameIndex := 9, descriptorIndex := 6, attributes := #[] }, { accessFlags := 16409, nameIndex := 12, descriptorIndex := 6, attributes := #[] }, { accessFlags := 16409, nameIndex := 15, descriptorIndex := 6, attributes := #[] }, { accessFlags := 18, nameIndex := 37, descriptorIndex := 38, attributes := #[] }, { accessFlags := 4122, nameIndex := 18, descriptorIndex := 19, attributes := #[] }])
  fields := #[{ name := "NEW", type := (.object "com/example/elvina/elvina/monitor/Outcome"), accessFlags := 16409, slot := 0, constantValue := 0 }, { name := "CHANGED", type := (.object "com/example/elvina/elvina/monitor/Outcome"), accessFlags := 16409, slot := 1, constantValue := 0 }, { name := "UNCHANGED", type := (.object "com/example/elvina/elvina/monitor/Outcome"), accessFlags := 16409, slot := 2, constantValue := 0 }, { name := "ERROR", type := (.object "com/example/elvina/elvina/monitor/Outcome"), accessFlags := 16409, slot := 3, constantValue := 0 }, { name := "label", type := (.object "java/lang/String"), accessFlags := 18, slot := 3, constantValue := 0 }, { name := "$VALUES", type := (.array (.object "com/example/elvina/elvina/monitor/Outcome")), accessFlags := 4122, slot := 4, constantValue := 0 }]
  methods := #[k6m0, k6m1, k6m2]
  instanceTypes := #[(.object "java/lang/String"), .int, .int, (.object "java/lang/String")]
  staticTypes := #[(.object "com/example/elvina/elvina/monitor/Outcome"), (.object "com/example/elvina/elvina/monitor/Outcome"), (.object "com/example/elvina/elvina/monitor/Outcome"), (.object "com/example/elvina/elvina/monitor/Outcome"), (.array (.object "com/example/elvina/elvina/monitor/Outcome"))]
  resolved := Array.replicate 104 none
  statics := some 0 }

def pool7 : Array CpInfo := pool [(2, .class_ 4), (1, u "java/lang/CharSequence"), (42, .class_ 48), (0, u "java/lang/CharSequence$1CodePointIterator"), (10, .class_ 60), (0, u "java/lang/CharSequence$1CharIterator"), (5, .class_ 67), (0, u "java/lang/Object")] 63

/-- java/lang/CharSequence -/
def k7 : Class := { plain "java/lang/CharSequence" (some 0) with
  accessFlags := 1537
  interfaces := #[]
  cf := some (fileOf pool7 2 #[.nestMembers #[47, 59]] #[] 1537 66 #[] #[])
  fields := #[]
  methods := #[]
  instanceTypes := #[]
  staticTypes := #[]
  resolved := Array.replicate 131 none
  statics := none }

def pool8 : Array CpInfo := pool [(1, .class_ 2), (0, u "java/lang/constant/ConstantDesc"), (0, .class_ 4), (0, u "java/lang/Object")] 32

/-- java/lang/constant/ConstantDesc -/
def k8 : Class := { plain "java/lang/constant/ConstantDesc" (some 0) with
  accessFlags := 1537
  interfaces := #[]
  cf := some (fileOf pool8 1 #[] #[] 1537 3 #[] #[])
  fields := #[]
  methods := #[]
  instanceTypes := #[]
  staticTypes := #[]
  resolved := Array.replicate 37 none
  statics := none }

def pool9 : Array CpInfo := pool [(1, .methodref 2 3), (0, .class_ 4), (0, .nameAndType 5 6), (0, u "java/lang/Object"), (0, u "<init>"), (0, u "()V"), (2, .fieldref 10 11), (0, .class_ 12), (0, .nameAndType 13 14), (0, u "java/lang/String"), (0, u "value"), (0, u "[B"), (0, .fieldref 10 16), (0, .nameAndType 17 18), (0, u "coder"), (0, u "B"), (2, u "hash"), (0, u "I"), (2, u "hashIsZero"), (0, u "Z"), (0, .methodref 10 28), (0, .nameAndType 5 29), (0, u "([CIILjava/lang/Void;)V"), (8, .fieldref 10 39), (0, .nameAndType 40 26), (0, u "COMPACT_STRINGS"), (1, .class_ 44), (1, u "java/lang/StringUTF16"), (0, u "compress"), (1, .methodref 42 48), (0, .nameAndType 49 50), (0, u "coderFromArrayLen"), (0, u "([BI)B"), (56, .class_ 109), (1, u "java/lang/StringLatin1"), (67, .methodref 42 178), (0, .nameAndType 45 179), (0, u "([CII)[B"), (361, .methodref 107 542), (0, .nameAndType 543 544), (0, u "equals"), (0, u "([B[B)Z"), (28, u "(Ljava/lang/Object;)Z"), (1, .class_ 576), (0, u "java/lang/CharSequence"), (22, u "CASE_INSENSITIVE_ORDER"), (0, u "Ljava/util/Comparator;"), (409, u "([C)V"), (90, u "serialPersistentFields"), (0, u "[Ljava/io/ObjectStreamField;"), (0, .class_ 1104), (0, u "java/lang/String$CaseInsensitiveComparator"), (1, .class_ 1107), (0, u "java/io/Serializable"), (0, .class_ 1109), (0, u "java/lang/Comparable"), (0, .class_ 1111), (0, u "java/lang/constant/Constable"), (0, .class_ 1113), (0, u "java/lang/constant/ConstantDesc"), (2, u "serialVersionUID"), (0, u "J"), (3, u "REPL"), (0, u "C"), (2, u "LATIN1"), (1, u "UTF16")] 323

def k9m0 : Method := { name := "<init>", desc := "()V", sig := { parameters := [], returnType := none }, accessFlags := 1, code := none }
def k9c1 : Code := { maxStack := 5, maxLocals := 2, code := jdk_42_method_3_code, exceptionTable := #[], attributes := #[] }
def k9m1 : Method := { name := "<init>", desc := "([C)V", sig := { parameters := [(.array .char)], returnType := none }, accessFlags := 1, code := some k9c1 }
def k9c2 : Code := { maxStack := 2, maxLocals := 3, code := jdk_42_method_66_code, exceptionTable := #[], attributes := #[] }
def k9m2 : Method := { name := "equals", desc := "(Ljava/lang/Object;)Z", sig := { parameters := [(.object "java/lang/Object")], returnType := some .boolean }, accessFlags := 1, code := some k9c2 }
def k9c3 : Code := { maxStack := 4, maxLocals := 6, code := jdk_42_method_149_code, exceptionTable := #[], attributes := #[] }
def k9m3 : Method := { name := "<init>", desc := "([CIILjava/lang/Void;)V", sig := { parameters := [(.array .char), .int, .int, (.object "java/lang/Void")], returnType := none }, accessFlags := 2, code := some k9c3 }
/-- java/lang/String -/
def k9 : Class := { plain "java/lang/String" (some 0) with
  accessFlags := 49
  interfaces := #[4, 3, 7, 2, 8]
  cf := some (fileOf pool9 10 #[.nestMembers #[1103]] #[{ accessFlags := 1, nameIndex := 5, descriptorIndex := 6, attributes := #[] }, { accessFlags := 1, nameIndex := 5, descriptorIndex := 1010, attributes := #[] }, { accessFlags := 1, nameIndex := 543, descriptorIndex := 573, attributes := #[] }, { accessFlags := 2, nameIndex := 5, descriptorIndex := 29, attributes := #[] }] 49 2 #[1106, 1108, 575, 1110, 1112] #[{ accessFlags := 18, nameIndex := 13, descriptorIndex := 14, attributes := #[] }, { accessFlags := 18, nameIndex := 17, descriptorIndex := 18, attributes := #[] }, { accessFlags := 2, nameIndex := 21, descriptorIndex := 22, attributes := #[] }, { accessFlags := 2, nameIndex := 25, descriptorIndex := 26, attributes := #[] }, { accessFlags := 26, nameIndex := 1116, descriptorIndex := 1117, attributes := #[] }, { accessFlags := 24, nameIndex := 40, descriptorIndex := 26, attributes := #[] }, { accessFlags := 26, nameIndex := 1101, descriptorIndex := 1102, attributes := #[] }, { accessFlags := 26, nameIndex := 1121, descriptorIndex := 1122, attributes := #[] }, { accessFlags := 25, nameIndex := 599, descriptorIndex := 600, attributes := #[] }, { accessFlags := 24, nameIndex := 1125, descriptorIndex := 18, attributes := #[] }, { accessFlags := 24, nameIndex := 1127, descriptorIndex := 18, attributes := #[] }])
  fields := #[{ name := "value", type := (.array .byte), accessFlags := 18, slot := 0, constantValue := 0 }, { name := "coder", type := .byte, accessFlags := 18, slot := 1, constantValue := 0 }, { name := "hash", type := .int, accessFlags := 2, slot := 2, constantValue := 0 }, { name := "hashIsZero", type := .boolean, accessFlags := 2, slot := 3, constantValue := 0 }, { name := "serialVersionUID", type := .long, accessFlags := 26, slot := 0, constantValue := 0 }, { name := "COMPACT_STRINGS", type := .boolean, accessFlags := 24, slot := 1, constantValue := 0 }, { name := "serialPersistentFields", type := (.array (.object "java/io/ObjectStreamField")), accessFlags := 26, slot := 2, constantValue := 0 }, { name := "REPL", type := .char, accessFlags := 26, slot := 3, constantValue := 0 }, { name := "CASE_INSENSITIVE_ORDER", type := (.object "java/util/Comparator"), accessFlags := 25, slot := 4, constantValue := 0 }, { name := "LATIN1", type := .byte, accessFlags := 24, slot := 5, constantValue := 0 }, { name := "UTF16", type := .byte, accessFlags := 24, slot := 6, constantValue := 0 }]
  methods := #[k9m0, k9m1, k9m2, k9m3]
  instanceTypes := #[(.array .byte), .byte, .int, .boolean]
  staticTypes := #[.long, .boolean, (.array (.object "java/io/ObjectStreamField")), .char, (.object "java/util/Comparator"), .byte, .byte]
  resolved := Array.replicate 1451 none
  statics := some 1 }

def pool10 : Array CpInfo := pool [(6, .class_ 8), (1, u "java/lang/Object"), (0, u "<init>"), (0, u "()V"), (1, .class_ 14), (1, u "java/lang/StringUTF16"), (31, u "$assertionsDisabled"), (0, u "Z"), (13, u "HI_BYTE_SHIFT"), (0, u "I"), (2, u "LO_BYTE_SHIFT"), (49, .methodref 12 116), (0, .nameAndType 117 118), (0, u "compress"), (0, u "([CI[BII)I"), (3, u "([CII)[B"), (138, u "coderFromArrayLen"), (0, u "([BI)B"), (106, .class_ 371), (1, u "java/lang/StringUTF16$LinesSpliterator"), (58, u "MAX_LENGTH"), (196, .class_ 628), (0, u "java/lang/StringUTF16$CodePointsSpliterator"), (0, .class_ 630), (0, u "java/lang/StringUTF16$CharsSpliterator")] 4

def k10m0 : Method := { name := "<init>", desc := "()V", sig := { parameters := [], returnType := none }, accessFlags := 0, code := none }
def k10c1 : Code := { maxStack := 2, maxLocals := 2, code := jdk_52_method_15_code, exceptionTable := #[], attributes := #[] }
def k10m1 : Method := { name := "coderFromArrayLen", desc := "([BI)B", sig := { parameters := [(.array .byte), .int], returnType := some .byte }, accessFlags := 8, code := some k10c1 }
def k10c2 : Code := { maxStack := 5, maxLocals := 6, code := jdk_52_method_16_code, exceptionTable := #[], attributes := #[] }
def k10m2 : Method := { name := "compress", desc := "([CII)[B", sig := { parameters := [(.array .char), .int, .int], returnType := some (.array .byte) }, accessFlags := 9, code := some k10c2 }
def k10c3 : Code := { maxStack := 3, maxLocals := 7, code := jdk_52_method_21_code, exceptionTable := #[], attributes := #[] }
def k10m3 : Method := { name := "compress", desc := "([CI[BII)I", sig := { parameters := [(.array .char), .int, (.array .byte), .int, .int], returnType := some .int }, accessFlags := 9, code := some k10c3 }
/-- java/lang/StringUTF16 -/
def k10 : Class := { plain "java/lang/StringUTF16" (some 0) with
  accessFlags := 48
  interfaces := #[]
  cf := some (fileOf pool10 12 #[.nestMembers #[627, 629, 369]] #[{ accessFlags := 0, nameIndex := 9, descriptorIndex := 10, attributes := #[] }, { accessFlags := 8, nameIndex := 261, descriptorIndex := 262, attributes := #[] }, { accessFlags := 9, nameIndex := 117, descriptorIndex := 122, attributes := #[] }, { accessFlags := 9, nameIndex := 117, descriptorIndex := 118, attributes := #[] }] 48 6 #[] #[{ accessFlags := 26, nameIndex := 61, descriptorIndex := 62, attributes := #[] }, { accessFlags := 26, nameIndex := 65, descriptorIndex := 62, attributes := #[] }, { accessFlags := 24, nameIndex := 430, descriptorIndex := 62, attributes := #[] }, { accessFlags := 4120, nameIndex := 46, descriptorIndex := 47, attributes := #[] }])
  fields := #[{ name := "HI_BYTE_SHIFT", type := .int, accessFlags := 26, slot := 0, constantValue := 0 }, { name := "LO_BYTE_SHIFT", type := .int, accessFlags := 26, slot := 1, constantValue := 0 }, { name := "MAX_LENGTH", type := .int, accessFlags := 24, slot := 2, constantValue := 0 }, { name := "$assertionsDisabled", type := .boolean, accessFlags := 4120, slot := 3, constantValue := 0 }]
  methods := #[k10m0, k10m1, k10m2, k10m3]
  instanceTypes := #[]
  staticTypes := #[.int, .int, .int, .boolean]
  resolved := Array.replicate 635 none
  statics := none }

def pool11 : Array CpInfo := pool [(1, .class_ 2), (0, u "java/lang/Cloneable"), (0, .class_ 4), (0, u "java/lang/Object")] 2

/-- java/lang/Cloneable -/
def k11 : Class := { plain "java/lang/Cloneable" (some 0) with
  accessFlags := 1537
  interfaces := #[]
  cf := some (fileOf pool11 1 #[] #[] 1537 3 #[] #[])
  fields := #[]
  methods := #[]
  instanceTypes := #[]
  staticTypes := #[]
  resolved := Array.replicate 7 none
  statics := none }

def pool12 : Array CpInfo := pool [(4, .class_ 6), (1, u "java/lang/Object"), (0, u "<init>"), (0, u "()V"), (5, .class_ 16), (1, u "java/lang/StringLatin1"), (104, u "$assertionsDisabled"), (0, u "Z"), (98, .class_ 223), (1, u "java/lang/StringLatin1$LinesSpliterator"), (57, u "equals"), (0, u "([B[B)Z"), (107, .class_ 391), (0, u "java/lang/StringLatin1$CharsSpliterator")] 3

def k12m0 : Method := { name := "<init>", desc := "()V", sig := { parameters := [], returnType := none }, accessFlags := 0, code := none }
def k12c1 : Code := { maxStack := 3, maxLocals := 3, code := jdk_43_method_13_code, exceptionTable := #[], attributes := #[] }
def k12m1 : Method := { name := "equals", desc := "([B[B)Z", sig := { parameters := [(.array .byte), (.array .byte)], returnType := some .boolean }, accessFlags := 9, code := some k12c1 }
/-- java/lang/StringLatin1 -/
def k12 : Class := { plain "java/lang/StringLatin1" (some 0) with
  accessFlags := 48
  interfaces := #[]
  cf := some (fileOf pool12 14 #[.nestMembers #[390, 221]] #[{ accessFlags := 0, nameIndex := 7, descriptorIndex := 8, attributes := #[] }, { accessFlags := 9, nameIndex := 281, descriptorIndex := 282, attributes := #[] }] 48 4 #[] #[{ accessFlags := 4120, nameIndex := 121, descriptorIndex := 122, attributes := #[] }])
  fields := #[{ name := "$assertionsDisabled", type := .boolean, accessFlags := 4120, slot := 0, constantValue := 0 }]
  methods := #[k12m0, k12m1]
  instanceTypes := #[]
  staticTypes := #[.boolean]
  resolved := Array.replicate 395 none
  statics := none }

def pool13 : Array CpInfo := pool [(2, .class_ 4), (1, u "java/lang/Object"), (0, u "<init>"), (0, u "()V"), (17, .class_ 26), (1, u "jdk/internal/util/Preconditions"), (28, .class_ 56), (0, u "jdk/internal/util/Preconditions$4"), (57, .class_ 115), (0, u "jdk/internal/util/Preconditions$1"), (7, u "SIOOBE_FORMATTER"), (0, u "Ljava/util/function/BiFunction;"), (0, .class_ 126), (0, u "jdk/internal/util/Preconditions$2"), (3, u "AIOOBE_FORMATTER"), (0, .class_ 132), (0, u "jdk/internal/util/Preconditions$3"), (3, u "IOOBE_FORMATTER")] 57

def k13m0 : Method := { name := "<init>", desc := "()V", sig := { parameters := [], returnType := none }, accessFlags := 1, code := none }
/-- jdk/internal/util/Preconditions -/
def k13 : Class := { plain "jdk/internal/util/Preconditions" (some 0) with
  accessFlags := 33
  interfaces := #[]
  cf := some (fileOf pool13 24 #[.nestMembers #[55, 131, 125, 114]] #[{ accessFlags := 1, nameIndex := 5, descriptorIndex := 6, attributes := #[] }] 33 2 #[] #[{ accessFlags := 25, nameIndex := 123, descriptorIndex := 124, attributes := #[] }, { accessFlags := 25, nameIndex := 130, descriptorIndex := 124, attributes := #[] }, { accessFlags := 25, nameIndex := 136, descriptorIndex := 124, attributes := #[] }])
  fields := #[{ name := "SIOOBE_FORMATTER", type := (.object "java/util/function/BiFunction"), accessFlags := 25, slot := 0, constantValue := 0 }, { name := "AIOOBE_FORMATTER", type := (.object "java/util/function/BiFunction"), accessFlags := 25, slot := 1, constantValue := 0 }, { name := "IOOBE_FORMATTER", type := (.object "java/util/function/BiFunction"), accessFlags := 25, slot := 2, constantValue := 0 }]
  methods := #[k13m0]
  instanceTypes := #[]
  staticTypes := #[(.object "java/util/function/BiFunction"), (.object "java/util/function/BiFunction"), (.object "java/util/function/BiFunction")]
  resolved := Array.replicate 194 none
  statics := some 2 }

def pool14 : Array CpInfo := pool [(9, u "<init>"), (6, .class_ 18), (1, u "java/lang/Object"), (0, u "()V"), (1, .class_ 23), (1, u "jdk/internal/util/ArraysSupport"), (0, u "LOG2_ARRAY_LONG_INDEX_SCALE"), (0, u "I"), (2, u "U"), (0, u "Ljdk/internal/misc/Unsafe;"), (8, u "BIG_ENDIAN"), (0, u "Z"), (8, u "LOG2_BYTE_BIT_SIZE"), (4, u "LOG2_ARRAY_INT_INDEX_SCALE"), (54, u "JLA"), (0, u "Ljdk/internal/access/JavaLangAccess;"), (11, u "LOG2_ARRAY_BOOLEAN_INDEX_SCALE"), (9, u "LOG2_ARRAY_BYTE_INDEX_SCALE"), (5, u "LOG2_ARRAY_CHAR_INDEX_SCALE"), (5, u "LOG2_ARRAY_SHORT_INDEX_SCALE"), (18, u "LOG2_ARRAY_FLOAT_INDEX_SCALE"), (24, u "LOG2_ARRAY_DOUBLE_INDEX_SCALE"), (89, u "T_BOOLEAN"), (2, u "T_CHAR"), (1, u "T_FLOAT"), (1, u "T_DOUBLE"), (1, u "T_BYTE"), (1, u "T_SHORT"), (1, u "T_INT"), (1, u "T_LONG"), (1, u "SOFT_MAX_ARRAY_LENGTH")] 83

def k14m0 : Method := { name := "<init>", desc := "()V", sig := { parameters := [], returnType := none }, accessFlags := 2, code := none }
/-- jdk/internal/util/ArraysSupport -/
def k14 : Class := { plain "jdk/internal/util/ArraysSupport" (some 0) with
  accessFlags := 33
  interfaces := #[]
  cf := some (fileOf pool14 21 #[] #[{ accessFlags := 2, nameIndex := 9, descriptorIndex := 19, attributes := #[] }] 33 16 #[] #[{ accessFlags := 24, nameIndex := 28, descriptorIndex := 29, attributes := #[] }, { accessFlags := 26, nameIndex := 38, descriptorIndex := 39, attributes := #[] }, { accessFlags := 25, nameIndex := 121, descriptorIndex := 25, attributes := #[] }, { accessFlags := 25, nameIndex := 131, descriptorIndex := 25, attributes := #[] }, { accessFlags := 25, nameIndex := 137, descriptorIndex := 25, attributes := #[] }, { accessFlags := 25, nameIndex := 143, descriptorIndex := 25, attributes := #[] }, { accessFlags := 25, nameIndex := 53, descriptorIndex := 25, attributes := #[] }, { accessFlags := 25, nameIndex := 24, descriptorIndex := 25, attributes := #[] }, { accessFlags := 25, nameIndex := 162, descriptorIndex := 25, attributes := #[] }, { accessFlags := 25, nameIndex := 187, descriptorIndex := 25, attributes := #[] }, { accessFlags := 26, nameIndex := 48, descriptorIndex := 25, attributes := #[] }, { accessFlags := 25, nameIndex := 277, descriptorIndex := 25, attributes := #[] }, { accessFlags := 25, nameIndex := 280, descriptorIndex := 25, attributes := #[] }, { accessFlags := 25, nameIndex := 282, descriptorIndex := 25, attributes := #[] }, { accessFlags := 25, nameIndex := 284, descriptorIndex := 25, attributes := #[] }, { accessFlags := 25, nameIndex := 286, descriptorIndex := 25, attributes := #[] }, { accessFlags := 25, nameIndex := 288, descriptorIndex := 25, attributes := #[] }, { accessFlags := 25, nameIndex := 290, descriptorIndex := 25, attributes := #[] }, { accessFlags := 25, nameIndex := 292, descriptorIndex := 25, attributes := #[] }, { accessFlags := 26, nameIndex := 108, descriptorIndex := 109, attributes := #[] }, { accessFlags := 25, nameIndex := 294, descriptorIndex := 25, attributes := #[] }])
  fields := #[{ name := "U", type := (.object "jdk/internal/misc/Unsafe"), accessFlags := 24, slot := 0, constantValue := 0 }, { name := "BIG_ENDIAN", type := .boolean, accessFlags := 26, slot := 1, constantValue := 0 }, { name := "LOG2_ARRAY_BOOLEAN_INDEX_SCALE", type := .int, accessFlags := 25, slot := 2, constantValue := 0 }, { name := "LOG2_ARRAY_BYTE_INDEX_SCALE", type := .int, accessFlags := 25, slot := 3, constantValue := 0 }, { name := "LOG2_ARRAY_CHAR_INDEX_SCALE", type := .int, accessFlags := 25, slot := 4, constantValue := 0 }, { name := "LOG2_ARRAY_SHORT_INDEX_SCALE", type := .int, accessFlags := 25, slot := 5, constantValue := 0 }, { name := "LOG2_ARRAY_INT_INDEX_SCALE", type := .int, accessFlags := 25, slot := 6, constantValue := 0 }, { name := "LOG2_ARRAY_LONG_INDEX_SCALE", type := .int, accessFlags := 25, slot := 7, constantValue := 0 }, { name := "LOG2_ARRAY_FLOAT_INDEX_SCALE", type := .int, accessFlags := 25, slot := 8, constantValue := 0 }, { name := "LOG2_ARRAY_DOUBLE_INDEX_SCALE", type := .int, accessFlags := 25, slot := 9, constantValue := 0 }, { name := "LOG2_BYTE_BIT_SIZE", type := .int, accessFlags := 26, slot := 10, constantValue := 0 }, { name := "T_BOOLEAN", type := .int, accessFlags := 25, slot := 11, constantValue := 0 }, { name := "T_CHAR", type := .int, accessFlags := 25, slot := 12, constantValue := 0 }, { name := "T_FLOAT", type := .int, accessFlags := 25, slot := 13, constantValue := 0 }, { name := "T_DOUBLE", type := .int, accessFlags := 25, slot := 14, constantValue := 0 }, { name := "T_BYTE", type := .int, accessFlags := 25, slot := 15, constantValue := 0 }, { name := "T_SHORT", type := .int, accessFlags := 25, slot := 16, constantValue := 0 }, { name := "T_INT", type := .int, accessFlags := 25, slot := 17, constantValue := 0 }, { name := "T_LONG", type := .int, accessFlags := 25, slot := 18, constantValue := 0 }, { name := "JLA", type := (.object "jdk/internal/access/JavaLangAccess"), accessFlags := 26, slot := 19, constantValue := 0 }, { name := "SOFT_MAX_ARRAY_LENGTH", type := .int, accessFlags := 25, slot := 20, constantValue := 0 }]
  methods := #[k14m0]
  instanceTypes := #[]
  staticTypes := #[(.object "jdk/internal/misc/Unsafe"), .boolean, .int, .int, .int, .int, .int, .int, .int, .int, .int, .int, .int, .int, .int, .int, .int, .int, .int, (.object "jdk/internal/access/JavaLangAccess"), .int]
  resolved := Array.replicate 378 none
  statics := none }

/-- the primitive byte -/
def k15 : Class := { plain "byte" none with kind := .primitive 'B', accessFlags := 0x411 }
/-- [B -/
def k16 : Class := { plain "[B" (some 0) with kind := .array 15 .byte, interfaces := #[11, 4], accessFlags := 1041 }

/-- the primitive char -/
def k17 : Class := { plain "char" none with kind := .primitive 'C', accessFlags := 0x411 }
/-- [C -/
def k18 : Class := { plain "[C" (some 0) with kind := .array 17 .char, interfaces := #[11, 4], accessFlags := 1041 }

/-- the primitive int -/
def k19 : Class := { plain "int" none with kind := .primitive 'I', accessFlags := 0x411 }
/-- [I -/
def k20 : Class := { plain "[I" (some 0) with kind := .array 19 .int, interfaces := #[11, 4], accessFlags := 1041 }

/-- [Lcom/example/elvina/elvina/monitor/Outcome; -/
def k21 : Class := { plain "[Lcom/example/elvina/elvina/monitor/Outcome;" (some 0) with kind := .array 6 (.object "com/example/elvina/elvina/monitor/Outcome"), interfaces := #[11, 4], accessFlags := 1041 }

def heap : Heap := #[{ cls := 6, slots := #[.ref 6, .ref 9, .ref 12, .ref 15, .ref 3], vm := .statics 6 },
  { cls := 9, slots := #[.long 0, .int 1, .null, .int 0, .null, .int 0, .int 0], vm := .statics 9 },
  { cls := 13, slots := #[.null, .null, .null], vm := .statics 13 },
  { cls := 21, slots := #[.ref 6, .ref 9, .ref 12, .ref 15], vm := .none },
  { cls := 16, slots := #[.int 110, .int 101, .int 119], vm := .none },
  { cls := 9, slots := #[.ref 4, .int 0, .int 0, .int 0], vm := .none },
  { cls := 6, slots := #[.null, .int 0, .int 0, .ref 5], vm := .none },
  { cls := 16, slots := #[.int 99, .int 104, .int 97, .int 110, .int 103, .int 101, .int 100], vm := .none },
  { cls := 9, slots := #[.ref 7, .int 0, .int 0, .int 0], vm := .none },
  { cls := 6, slots := #[.null, .int 1, .int 0, .ref 8], vm := .none },
  { cls := 16, slots := #[.int 117, .int 110, .int 99, .int 104, .int 97, .int 110, .int 103, .int 101, .int 100], vm := .none },
  { cls := 9, slots := #[.ref 10, .int 0, .int 0, .int 0], vm := .none },
  { cls := 6, slots := #[.null, .int 2, .int 0, .ref 11], vm := .none },
  { cls := 16, slots := #[.int 101, .int 114, .int 114, .int 111, .int 114], vm := .none },
  { cls := 9, slots := #[.ref 13, .int 0, .int 0, .int 0], vm := .none },
  { cls := 6, slots := #[.null, .int 3, .int 0, .ref 14], vm := .none }]
def classes : Array Class := #[k0, k1, k2, k3, k4, k5, k6, k7, k8, k9, k10, k11, k12, k13, k14, k15, k16, k17, k18, k19, k20, k21]
def interned : List (Array UInt16 × Addr) := []
def slotsUsed : Nat := 75
def theMethod : MethodId := ⟨1, 1⟩
def args0 : Array Value := #[.int 5]
def aboutOver (below : List Frame) : State where
  vm := { classes := classes, interned := interned.toArray }
  heap := heap
  slotsUsed := slotsUsed
  threads := #[{ frames := .invoking theMethod args0 :: below }]
def below0 : List Frame := [.native { method := ⟨0, 0⟩, args := #[] }]
def about1 : State := aboutOver below0
def p0 : Program := .bare "" "" ""
def e0 : Env := launch0.env 0 0 0
theorem w_frames : about1.frames = Frame.invoking theMethod args0 :: below0 := rfl
set_option maxRecDepth 65536 in
theorem w_args : argsFit about1.vm theMethod args0 = true := by decide +kernel
set_option maxRecDepth 65536 in
theorem w_heap : heapFits about1 = true := by decide +kernel
set_option maxRecDepth 65536 in
theorem w_runnable : about1.curStatus? = some .runnable := by decide +kernel
set_option maxRecDepth 65536 in
theorem w_alone : about1.alone = true := by decide +kernel
set_option maxRecDepth 65536 in
theorem w_named : about1.methodNamed? x = some theMethod := by decide +kernel
set_option maxRecDepth 65536 in
theorem w_hears : about1.hears theMethod below0 = true := by decide +kernel
set_option maxRecDepth 65536 in
theorem w_ripe : about1.ripe theMethod args0 below0 = true := by decide +kernel
theorem w_running : about1.status = .running := rfl
set_option maxRecDepth 65536 in
theorem w_room : about1.hasRoom e0.platform room_1 = true :=
  launch0.hasRoom_least _ room_1 (by decide +kernel) (by decide +kernel) (by decide +kernel) (by decide +kernel) (by decide +kernel) (by decide +kernel)
theorem allAtoms_all (ts : List Jvm.Cond) (a : Array Jvm.Value) (st : Jvm.State) : (allAtoms ts).before a st = ts.all (fun c => c.before a st) := by
  induction ts with
  | nil => rfl
  | cons c t ih =>
    show (Jvm.Cond.and c (allAtoms t)).before a st = _
    rw [Jvm.Cond.before_and, ih, List.all_cons]
def words1 : List Jvm.Cond := Jvm.Cond.code x code maxLocals ret :: tables_1
/-- a 'code' word, met by the world's own term for the bytes: nothing is compared byte by byte -/
theorem code_word {y : MethodName} {bytes : ByteArray} {mx : Nat} {rt : Option FieldType} {a : Array Value} {s : State} {m : MethodId} {meth : Method} {c : Code} (h1 : s.methodNamed? y = some m) (h2 : s.vm.method? m = some meth) (h3 : meth.code = some c) (h4 : c.code = bytes)
    (h5 : (c.maxLocals == mx && c.exceptionTable.isEmpty && decide (c.maxStack ≤ mostOperands) && decide (meth.sig.returnType = rt) && !meth.locks && decide (parseMethodDescriptor y.desc = some meth.sig)) = true) : (Jvm.Cond.code y bytes mx rt).before a s = true := by
  simp only [Bool.and_eq_true, beq_iff_eq, Bool.not_eq_true', decide_eq_true_eq] at h5
  obtain ⟨⟨⟨⟨⟨g1, g2⟩, g3⟩, g4⟩, g5⟩, g6⟩ := h5
  simp [Cond.before, Cond.holds, Cond.value, h1, h2, h3, h4, g1, g2, g3, g4, g5, g6]
def isCode : Jvm.Cond → Bool
  | .code _ _ _ _ => true
  | _ => false
theorem all_split {L : List Jvm.Cond} {P : Jvm.Cond → Bool} (h1 : L.all (fun c => isCode c || P c) = true) (h2 : ∀ c ∈ L.filter isCode, P c = true) : L.all P = true := by
  refine List.all_eq_true.mpr fun c hc => ?_
  have h := List.all_eq_true.mp h1 c hc
  rcases Bool.eq_false_or_eq_true (isCode c) with hi | hi
  · exact h2 c (List.mem_filter.mpr ⟨hc, hi⟩)
  · simpa [hi] using h
set_option maxRecDepth 65536 in
theorem w_c0 : (Jvm.Cond.code x code maxLocals ret).before args0 about1 = true := code_word (m := ⟨1, 1⟩) (meth := k1m1) (c := k1c1) (by decide +kernel) rfl rfl rfl (by decide +kernel)
set_option maxRecDepth 65536 in
theorem w_c1 : (Jvm.Cond.code ({ cls := "java/lang/String", name := "<init>", desc := "([C)V" } : Jvm.MethodName) jdk_42_method_3_code (2 : Nat) (Option.none : Option Jvm.ClassFile.FieldType)).before args0 about1 = true := code_word (m := ⟨9, 1⟩) (meth := k9m1) (c := k9c1) (by decide +kernel) rfl rfl rfl (by decide +kernel)
set_option maxRecDepth 65536 in
theorem w_c2 : (Jvm.Cond.code ({ cls := "java/lang/String", name := "<init>", desc := "([CIILjava/lang/Void;)V" } : Jvm.MethodName) jdk_42_method_149_code (6 : Nat) (Option.none : Option Jvm.ClassFile.FieldType)).before args0 about1 = true := code_word (m := ⟨9, 3⟩) (meth := k9m3) (c := k9c3) (by decide +kernel) rfl rfl rfl (by decide +kernel)
set_option maxRecDepth 65536 in
theorem w_c3 : (Jvm.Cond.code ({ cls := "java/lang/Object", name := "<init>", desc := "()V" } : Jvm.MethodName) object_method_1_code (1 : Nat) (Option.none : Option Jvm.ClassFile.FieldType)).before args0 about1 = true := code_word (m := ⟨0, 0⟩) (meth := k0m0) (c := k0c0) (by decide +kernel) rfl rfl rfl (by decide +kernel)
set_option maxRecDepth 65536 in
theorem w_c4 : (Jvm.Cond.code ({ cls := "java/lang/StringUTF16", name := "compress", desc := "([CII)[B" } : Jvm.MethodName) jdk_52_method_16_code (6 : Nat) (Option.some (Jvm.ClassFile.FieldType.array Jvm.ClassFile.FieldType.byte))).before args0 about1 = true := code_word (m := ⟨10, 2⟩) (meth := k10m2) (c := k10c2) (by decide +kernel) rfl rfl rfl (by decide +kernel)
set_option maxRecDepth 65536 in
theorem w_c5 : (Jvm.Cond.code ({ cls := "java/lang/StringUTF16", name := "compress", desc := "([CI[BII)I" } : Jvm.MethodName) jdk_52_method_21_code (7 : Nat) (Option.some Jvm.ClassFile.FieldType.int)).before args0 about1 = true := code_word (m := ⟨10, 3⟩) (meth := k10m3) (c := k10c3) (by decide +kernel) rfl rfl rfl (by decide +kernel)
set_option maxRecDepth 65536 in
theorem w_c6 : (Jvm.Cond.code ({ cls := "java/lang/StringUTF16", name := "coderFromArrayLen", desc := "([BI)B" } : Jvm.MethodName) jdk_52_method_15_code (2 : Nat) (Option.some Jvm.ClassFile.FieldType.byte)).before args0 about1 = true := code_word (m := ⟨10, 1⟩) (meth := k10m1) (c := k10c1) (by decide +kernel) rfl rfl rfl (by decide +kernel)
set_option maxRecDepth 65536 in
theorem w_c7 : (Jvm.Cond.code ({ cls := "com/example/elvina/elvina/monitor/Outcome", name := "ofLabel", desc := "(Ljava/lang/String;)Lcom/example/elvina/elvina/monitor/Outcome;" } : Jvm.MethodName) prog_9_method_5_code (5 : Nat) (Option.some (Jvm.ClassFile.FieldType.object "com/example/elvina/elvina/monitor/Outcome"))).before args0 about1 = true := code_word (m := ⟨6, 2⟩) (meth := k6m2) (c := k6c2) (by decide +kernel) rfl rfl rfl (by decide +kernel)
set_option maxRecDepth 65536 in
theorem w_c8 : (Jvm.Cond.code ({ cls := "com/example/elvina/elvina/monitor/Outcome", name := "values", desc := "()[Lcom/example/elvina/elvina/monitor/Outcome;" } : Jvm.MethodName) prog_9_method_1_code (0 : Nat) (Option.some (Jvm.ClassFile.FieldType.array (Jvm.ClassFile.FieldType.object "com/example/elvina/elvina/monitor/Outcome")))).before args0 about1 = true := code_word (m := ⟨6, 0⟩) (meth := k6m0) (c := k6c0) (by decide +kernel) rfl rfl rfl (by decide +kernel)
set_option maxRecDepth 65536 in
theorem w_c9 : (Jvm.Cond.code ({ cls := "java/lang/String", name := "equals", desc := "(Ljava/lang/Object;)Z" } : Jvm.MethodName) jdk_42_method_66_code (3 : Nat) (Option.some Jvm.ClassFile.FieldType.boolean)).before args0 about1 = true := code_word (m := ⟨9, 2⟩) (meth := k9m2) (c := k9c2) (by decide +kernel) rfl rfl rfl (by decide +kernel)
set_option maxRecDepth 65536 in
theorem w_c10 : (Jvm.Cond.code ({ cls := "java/lang/StringLatin1", name := "equals", desc := "([B[B)Z" } : Jvm.MethodName) jdk_43_method_13_code (3 : Nat) (Option.some Jvm.ClassFile.FieldType.boolean)).before args0 about1 = true := code_word (m := ⟨12, 1⟩) (meth := k12m1) (c := k12c1) (by decide +kernel) rfl rfl rfl (by decide +kernel)
set_option maxRecDepth 65536 in
theorem w_c11 : (Jvm.Cond.code ({ cls := "com/example/elvina/elvina/monitor/Outcome", name := "label", desc := "()Ljava/lang/String;" } : Jvm.MethodName) prog_9_method_4_code (1 : Nat) (Option.some (Jvm.ClassFile.FieldType.object "java/lang/String"))).before args0 about1 = true := code_word (m := ⟨6, 1⟩) (meth := k6m1) (c := k6c1) (by decide +kernel) rfl rfl rfl (by decide +kernel)
def codes1 : List Jvm.Cond := [Jvm.Cond.code x code maxLocals ret, Jvm.Cond.code ({ cls := "java/lang/String", name := "<init>", desc := "([C)V" } : Jvm.MethodName) jdk_42_method_3_code (2 : Nat) (Option.none : Option Jvm.ClassFile.FieldType), Jvm.Cond.code ({ cls := "java/lang/String", name := "<init>", desc := "([CIILjava/lang/Void;)V" } : Jvm.MethodName) jdk_42_method_149_code (6 : Nat) (Option.none : Option Jvm.ClassFile.FieldType), Jvm.Cond.code ({ cls := "java/lang/Object", name := "<init>", desc := "()V" } : Jvm.MethodName) object_method_1_code (1 : Nat) (Option.none : Option Jvm.ClassFile.FieldType), Jvm.Cond.code ({ cls := "java/lang/StringUTF16", name := "compress", desc := "([CII)[B" } : Jvm.MethodName) jdk_52_method_16_code (6 : Nat) (Option.some (Jvm.ClassFile.FieldType.array Jvm.ClassFile.FieldType.byte)), Jvm.Cond.code ({ cls := "java/lang/StringUTF16", name := "compress", desc := "([CI[BII)I" } : Jvm.MethodName) jdk_52_method_21_code (7 : Nat) (Option.some Jvm.ClassFile.FieldType.int), Jvm.Cond.code ({ cls := "java/lang/StringUTF16", name := "coderFromArrayLen", desc := "([BI)B" } : Jvm.MethodName) jdk_52_method_15_code (2 : Nat) (Option.some Jvm.ClassFile.FieldType.byte), Jvm.Cond.code ({ cls := "com/example/elvina/elvina/monitor/Outcome", name := "ofLabel", desc := "(Ljava/lang/String;)Lcom/example/elvina/elvina/monitor/Outcome;" } : Jvm.MethodName) prog_9_method_5_code (5 : Nat) (Option.some (Jvm.ClassFile.FieldType.object "com/example/elvina/elvina/monitor/Outcome")), Jvm.Cond.code ({ cls := "com/example/elvina/elvina/monitor/Outcome", name := "values", desc := "()[Lcom/example/elvina/elvina/monitor/Outcome;" } : Jvm.MethodName) prog_9_method_1_code (0 : Nat) (Option.some (Jvm.ClassFile.FieldType.array (Jvm.ClassFile.FieldType.object "com/example/elvina/elvina/monitor/Outcome"))), Jvm.Cond.code ({ cls := "java/lang/String", name := "equals", desc := "(Ljava/lang/Object;)Z" } : Jvm.MethodName) jdk_42_method_66_code (3 : Nat) (Option.some Jvm.ClassFile.FieldType.boolean), Jvm.Cond.code ({ cls := "java/lang/StringLatin1", name := "equals", desc := "([B[B)Z" } : Jvm.MethodName) jdk_43_method_13_code (3 : Nat) (Option.some Jvm.ClassFile.FieldType.boolean), Jvm.Cond.code ({ cls := "com/example/elvina/elvina/monitor/Outcome", name := "label", desc := "()Ljava/lang/String;" } : Jvm.MethodName) prog_9_method_4_code (1 : Nat) (Option.some (Jvm.ClassFile.FieldType.object "java/lang/String"))]
set_option maxRecDepth 65536 in
theorem codes_eq : words1.filter isCode = codes1 := rfl
theorem w_codes : ∀ c ∈ words1.filter isCode, c.before args0 about1 = true := by
  rw [codes_eq]
  intro c hc
  simp only [codes1, List.mem_cons, List.not_mem_nil, or_false] at hc
  rcases hc with rfl | rfl | rfl | rfl | rfl | rfl | rfl | rfl | rfl | rfl | rfl | rfl
  · exact w_c0
  · exact w_c1
  · exact w_c2
  · exact w_c3
  · exact w_c4
  · exact w_c5
  · exact w_c6
  · exact w_c7
  · exact w_c8
  · exact w_c9
  · exact w_c10
  · exact w_c11
set_option maxRecDepth 65536 in
theorem w_t1 : (words1.take 24).all (fun c => isCode c || c.before args0 about1) = true := by decide +kernel
set_option maxRecDepth 65536 in
theorem w_t2 : ((words1.drop 24).take 24).all (fun c => isCode c || c.before args0 about1) = true := by decide +kernel
set_option maxRecDepth 65536 in
theorem w_t3 : (((words1.drop 24).drop 24).take 24).all (fun c => isCode c || c.before args0 about1) = true := by decide +kernel
set_option maxRecDepth 65536 in
theorem w_t4 : (((words1.drop 24).drop 24).drop 24).all (fun c => isCode c || c.before args0 about1) = true := by decide +kernel
theorem w_tables : (allAtoms (Jvm.Cond.code x code maxLocals ret :: tables_1)).before args0 about1 = true := by
  rw [allAtoms_all]
  show words1.all (fun c => c.before args0 about1) = true
  refine all_split ?_ w_codes
  rw [← List.take_append_drop 24 words1, List.all_append, w_t1, ← List.take_append_drop 24 (words1.drop 24), List.all_append, w_t2, ← List.take_append_drop 24 ((words1.drop 24).drop 24), List.all_append, w_t3, w_t4]
  rfl
set_option maxRecDepth 65536 in
theorem w_rest : rest_1_c.before args0 about1 = true := by decide +kernel
set_option maxRecDepth 65536 in
theorem w_case : (Jvm.Cond.and given_1 narrow_1).before args0 about1 = true := by decide +kernel
theorem w_applies : (headSpec (Jvm.Cond.code x code maxLocals ret :: tables_1) room_1).applies x e0.platform about1 = true :=
  (Spec.applies_iff w_frames).mpr ⟨w_running, w_runnable, w_alone, w_named, w_hears, w_ripe, w_room, w_tables⟩
theorem atStart : AtStart classFile x code maxLocals ret World_1 tables_1 room_1 Calls_1 rest_1 Pre_1 launch0 p0 e0 about1 theMethod args0 below0 :=
  ⟨lists_1, trivial, launch0.admits_env _ _ _, launch0.least_env, fairChoices_fair.cas, fairChoices_fair.clock, w_frames, w_args, w_heap, w_applies, trivial, w_rest, w_case⟩
end start1
theorem witness_1 : WitnessClaimed_1 := ⟨start1.p0, start1.e0, start1.about1, start1.theMethod, start1.args0, start1.below0, start1.atStart⟩
end Jvm.Pilot.@@N@@
