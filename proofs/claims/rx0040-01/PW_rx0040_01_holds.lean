import PyProof.Rows.All
import Wide.All
import OpenK.AllK
import Wide.FinOn
import PySem.Challenge.RW_rx0040_01
set_option Elab.async false
set_option compiler.extract_closed false
set_option tactic.hygienic false
set_option genSizeOf false
set_option genSizeOfSpec false
local macro_rules | `(tactic| omega) => `(tactic| first | with_reducible assumption | exact Nat.le_trans (by with_reducible assumption) (by decide) | exact Nat.lt_of_lt_of_le (by with_reducible assumption) (by decide) | exact Nat.lt_of_le_of_lt (by with_reducible assumption) (by decide) | omega +splitDisjunctions)

-- the text Hd
section
set_option tactic.hygienic true
set_option genSizeOf true
set_option genSizeOfSpec true
open PySem PySem.W PyProof.Rows
namespace Mine
def seedC : PySem.Str := PySem.Str.ofString "a"
theorem seedE : seedC = seedC := rfl
name_quick tw6733733256287894996 for seedC by seedE
name_quick tw14821650378409806113 for seedC by seedE
name_quick tw8075568018651887793 for seedC by seedE
name_quick tw14979626087600564940 for seedC by seedE
name_quick tw8669998315185481120 for seedC by seedE
name_quick tw12521526893416235462 for seedC by seedE
name_quick tw413650506736303139 for seedC by seedE
name_quick tw1180156069936011428 for seedC by seedE
name_quick tw13764463391892403441 for seedC by seedE
name_quick tw5719599256827190719 for seedC by seedE
name_quick tw8901101332624060146 for seedC by seedE
name_quick tw8703263022893421829 for seedC by seedE
name_quick tw17000155066101142889 for seedC by seedE
name_quick tw6792406925840432001 for seedC by seedE
name_quick tw13559156169165276386 for seedC by seedE
name_quick tw6004533443673955352 for seedC by seedE
name_quick tw14326252917377295143 for seedC by seedE
name_quick tw17532718790514356516 for seedC by seedE
name_quick tw11543547407058413889 for seedC by seedE
name_quick tw12575752337218549985 for seedC by seedE
name_quick tw9011979029575296479 for seedC by seedE
name_quick tw6434138532213402376 for seedC by seedE
name_quick tw5032809538720368765 for seedC by seedE
name_quick tw5200128776193632040 for seedC by seedE
name_quick tw5111356299099525756 for seedC by seedE
name_quick tw17532440430192770315 for seedC by seedE
name_quick tw3577408171920636059 for seedC by seedE
name_quick tw17070079461858475408 for seedC by seedE
name_quick tw14884601019740666482 for seedC by seedE
name_quick tw460243522976405022 for seedC by seedE
name_quick tw6929956602132211858 for seedC by seedE
name_quick tw4083366629787285363 for seedC by seedE
name_quick tw14204384831589138817 for seedC by seedE
name_quick tw9029142643779711378 for seedC by seedE
name_quick tw2921100012855380799 for seedC by seedE
name_quick tw4388067698380316889 for seedC by seedE
name_quick tw14676129246514791375 for seedC by seedE
name_quick tw15236012663528867214 for seedC by seedE
name_quick tw9697512110049397445 for seedC by seedE
name_quick tw9407582987413476825 for seedC by seedE
name_quick tw2039238271031011813 for seedC by seedE
name_quick tw3856783459128436802 for seedC by seedE
name_quick tw2627984346626558326 for seedC by seedE
name_quick tw16214148842636244229 for seedC by seedE
name_quick tw16296994325663420285 for seedC by seedE
name_quick tw15480198773659482676 for seedC by seedE
name_quick tw11130039905162102590 for seedC by seedE
name_quick tw9136488742655976645 for seedC by seedE
name_quick tw392140993173905013 for seedC by seedE
name_quick tw900395245841561262 for seedC by seedE
name_quick tw13180171748994924942 for seedC by seedE
name_quick tw4636218855388986860 for seedC by seedE
name_quick tw4444965560193506482 for seedC by seedE
name_quick tw16804044748790271530 for seedC by seedE
name_quick tw11270796479367742343 for seedC by seedE
name_quick tw14376985748213822385 for seedC by seedE
name_quick tw6122645084068987007 for seedC by seedE
name_quick tw5591276700874282246 for seedC by seedE
name_quick tw9529234661008812162 for seedC by seedE
name_quick tw9948023125614773506 for seedC by seedE
name_quick tw6679490504615227074 for seedC by seedE
name_quick tw7581352650102555174 for seedC by seedE
name_quick tw14126943448341045398 for seedC by seedE
name_quick tw4658958612460137192 for seedC by seedE
name_quick tw13336175834630783545 for seedC by seedE
name_quick tw7457235589161816955 for seedC by seedE
name_quick tw4797165386629745026 for seedC by seedE
name_quick tw6550987210724342151 for seedC by seedE
name_quick tw10942035263794033107 for seedC by seedE
name_quick tw10227693086864044499 for seedC by seedE
name_quick tw17224707938729390701 for seedC by seedE
name_quick tw11326521457850498738 for seedC by seedE
name_quick tw14376050681354390291 for seedC by seedE
name_quick tw17672482021469178181 for seedC by seedE
name_quick tw11420187438672877268 for seedC by seedE
name_quick tw17279654841073493023 for seedC by seedE
name_quick tw3152983702415266003 for seedC by seedE
name_quick tw14386061602966655976 for seedC by seedE
name_quick tw9908251947323293946 for seedC by seedE
name_quick tw15663404670287596823 for seedC by seedE
name_quick tw18260038339965228139 for seedC by seedE
name_quick tw16751136340355185061 for seedC by seedE
name_quick tw14073706353221006472 for seedC by seedE
name_quick tw2354135333415324597 for seedC by seedE
name_quick tw1702518465993881591 for seedC by seedE
name_quick tw6631858758815746480 for seedC by seedE
name_quick tw1620339239838986703 for seedC by seedE
name_quick tw4075660801711882420 for seedC by seedE
name_quick tw667198328695590252 for seedC by seedE
name_quick tw6380047634161181297 for seedC by seedE
name_quick tw11964429278604863157 for seedC by seedE
name_quick tw16018607276475445134 for seedC by seedE
name_quick tw17164873540382356111 for seedC by seedE
name_quick tw7401281599722004195 for seedC by seedE
name_quick tw10948738476641704880 for seedC by seedE
name_quick tw5076957145309523181 for seedC by seedE
name_quick tw11729385059970357855 for seedC by seedE
name_quick tw10132909190147918485 for seedC by seedE
name_quick tw11333186260410459676 for seedC by seedE
name_quick tw18416463498863911781 for seedC by seedE
name_quick tw8860024209350480642 for seedC by seedE
name_quick tw4748654258956052638 for seedC by seedE
name_quick tw14213472795030965493 for seedC by seedE
name_quick tw11625766737575182897 for seedC by seedE
name_quick tw5882768191206486792 for seedC by seedE
name_quick tw17104762638478270653 for seedC by seedE
name_quick tw117213463901210413 for seedC by seedE
name_quick tw10253492065209306289 for seedC by seedE
name_quick tw11452132507678324671 for seedC by seedE
name_quick tw18340240734955500558 for seedC by seedE
name_quick tw16531745337717519161 for seedC by seedE
name_quick tw18056578402003937789 for seedC by seedE
name_quick tw16049961110935095269 for seedC by seedE
name_quick tw2334299552400917057 for seedC by seedE
name_quick tw9862997608875712007 for seedC by seedE
name_quick tw15894407043143930727 for seedC by seedE
name_quick tw1377046205977697930 for seedC by seedE
name_quick tw2719445374943340272 for seedC by seedE
name_quick tw17552769576498331613 for seedC by seedE
name_quick tw15490439104401381959 for seedC by seedE
name_quick tw7392212959928792091 for seedC by seedE
name_quick tw14311459727803291754 for seedC by seedE
name_quick tw16741492637210864865 for seedC by seedE
name_quick tw8595292554425487202 for seedC by seedE
name_quick tw9763268239775435451 for seedC by seedE
name_quick tw951843321253372498 for seedC by seedE
name_quick tw7299303143086499733 for seedC by seedE
name_quick tw932993149863042379 for seedC by seedE
name_quick tw16548257151911338427 for seedC by seedE
name_quick tw11566699232636054958 for seedC by seedE
name_quick tw15066959818950650227 for seedC by seedE
name_quick tw10887116778572429059 for seedC by seedE
name_quick tw15007238320947547705 for seedC by seedE
name_quick tw4552823106982906706 for seedC by seedE
name_quick tw5706481520468235054 for seedC by seedE
name_quick tw10424941004445345732 for seedC by seedE
name_quick tw17954471519018878134 for seedC by seedE
name_quick tw2862820112641550484 for seedC by seedE
name_quick tw8727135674562949291 for seedC by seedE
name_quick tw10073347824450446311 for seedC by seedE
name_quick tw7496433998918960881 for seedC by seedE
name_quick tw7721631327575515661 for seedC by seedE
name_quick tw14023627001141898710 for seedC by seedE
name_quick tw13145125596335152023 for seedC by seedE
name_quick tw18345786424863182364 for seedC by seedE
name_quick tw14530364306720264245 for seedC by seedE
name_quick tw8537084889766193716 for seedC by seedE
name_quick tw8424611434330503625 for seedC by seedE
name_quick tw14956549838072327282 for seedC by seedE
name_quick tw16643706677886111943 for seedC by seedE
name_quick tw704327219915372674 for seedC by seedE
name_quick tw9285146279643344392 for seedC by seedE
name_quick tw17057272898397164401 for seedC by seedE
name_quick tw14108194823987119177 for seedC by seedE
name_quick tw10010936943081839664 for seedC by seedE
name_quick tw12233582284571471492 for seedC by seedE
name_quick tw2422670821966735624 for seedC by seedE
name_quick tw13036272033356848781 for seedC by seedE
name_quick tw15560500314895047343 for seedC by seedE
name_quick tw5902227825499142635 for seedC by seedE
name_quick tw1258299570235058372 for seedC by seedE
name_quick tw2283851925072248500 for seedC by seedE
name_quick tw13900631225919944168 for seedC by seedE
name_quick tw16916688483869632129 for seedC by seedE
name_quick tw7269565832213808900 for seedC by seedE
name_quick tw3764465048917985505 for seedC by seedE
name_quick tw14834023430324568649 for seedC by seedE
name_quick tw11985326045990495214 for seedC by seedE
name_quick tw12290603225136948437 for seedC by seedE
name_quick tw9787463984185863102 for seedC by seedE
name_quick tw7275051467321613617 for seedC by seedE
name_quick tw9594665118957945026 for seedC by seedE
name_quick tw4980102563643897964 for seedC by seedE
name_quick tw17100903815162463580 for seedC by seedE
name_quick tw1655979643303829919 for seedC by seedE
name_quick tw2460228577881660442 for seedC by seedE
name_quick tw1962928258387122110 for seedC by seedE
name_quick tw12866136484021002089 for seedC by seedE
name_quick tw219737044198020058 for seedC by seedE
name_quick tw16350708796919097252 for seedC by seedE
name_quick tw2091960640491084115 for seedC by seedE
name_quick tw8376441433122354887 for seedC by seedE
name_quick tw14714103240675001986 for seedC by seedE
name_quick tw13335737130258781183 for seedC by seedE
name_quick tw282004115355043989 for seedC by seedE
name_quick tw8206430501311747189 for seedC by seedE
name_quick tw4090926877573551719 for seedC by seedE
name_quick tw18220123701641295943 for seedC by seedE
name_quick tw1258717718454355964 for seedC by seedE
name_quick tw1414301608579184545 for seedC by seedE
name_quick tw13678640442995254988 for seedC by seedE
name_quick tw11588390666370768167 for seedC by seedE
name_quick tw7232422423428716515 for seedC by seedE
name_quick tw17497748084772794779 for seedC by seedE
name_quick tw2478078296215019888 for seedC by seedE
name_quick tw4527066259768149269 for seedC by seedE
name_quick tw4071324889030633612 for seedC by seedE
name_quick tw10029231156530900338 for seedC by seedE
name_quick tw3131671291697673992 for seedC by seedE
name_quick tw5268983451555188008 for seedC by seedE
name_quick tw3619232141914619222 for seedC by seedE
name_quick tw12268644228514654432 for seedC by seedE
name_quick tw12945451867199242903 for seedC by seedE
name_quick tw5770868932273138760 for seedC by seedE
name_quick tw136631920214876835 for seedC by seedE
name_quick tw1218959903707654005 for seedC by seedE
name_quick tw15168306246750427876 for seedC by seedE
name_quick tw10938465397075749097 for seedC by seedE
name_quick tw14223099787259518943 for seedC by seedE
name_quick tw17888162413812561239 for seedC by seedE
name_quick tw505943868828395459 for seedC by seedE
name_quick tw5978237884098788730 for seedC by seedE
name_quick tw16414604833108395602 for seedC by seedE
name_quick tw662354867322794072 for seedC by seedE
name_quick tw4933834842325187142 for seedC by seedE
name_quick tw6448080314894763839 for seedC by seedE
name_quick tw15263041282635125899 for seedC by seedE
name_quick tw16593013826814733010 for seedC by seedE
name_quick tw470574548607681690 for seedC by seedE
name_quick tw16349804527192203551 for seedC by seedE
name_quick tw8753696776887207221 for seedC by seedE
name_quick tw9315938663221665524 for seedC by seedE
name_quick tw14698076462512835083 for seedC by seedE
name_quick tw10753579090125970612 for seedC by seedE
name_quick tw11346108149598046533 for seedC by seedE
name_quick tw6760867035383208335 for seedC by seedE
name_quick tw947111536369973478 for seedC by seedE
name_quick tw15855606640267800709 for seedC by seedE
name_quick tw4889476309725832403 for seedC by seedE
name_quick tw6435988898589368438 for seedC by seedE
set_option maxRecDepth 100000 in
set_option maxHeartbeats 8000000 in
open_top hd for PySem.Challenge.rw_rx0040_01
end Mine
end

-- the text M0
section
namespace Mine
inductive T where
  | n (k : Nat)
  | v (i : Nat)
  | a (s t : T)
  | m (k : Nat) (t : T)
  | r (t : T) (k : Nat)
noncomputable abbrev nth (c : List Nat) (i : Nat) : Nat := List.rec (motive := fun _ => Nat → Nat) (fun _ => 0) (fun x _ ih i => Nat.rec (motive := fun _ => Nat) x (fun j _ => ih j) i) c i
noncomputable abbrev T.den (c : List Nat) (t : T) : Nat := T.rec (motive := fun _ => Nat) (fun k => k) (fun i => nth c i) (fun _ _ x y => x + y) (fun k _ x => k * x) (fun _ k x => x * k) t
noncomputable def T.k : T → Nat
  | .n k => k
  | .v _ => 0
  | .a s t => s.k + t.k
  | .m k t => k * t.k
  | .r t k => t.k * k
noncomputable def T.co : T → Nat → Nat
  | .n _, _ => 0
  | .v j, i => bif Nat.beq i j then 1 else 0
  | .a s t, i => s.co i + t.co i
  | .m k t, i => k * t.co i
  | .r t k, i => t.co i * k
noncomputable def dot : List Nat → (Nat → Nat) → Nat
  | [], _ => 0
  | x :: c, g => g 0 * x + dot c fun i => g (i + 1)
theorem dot_zero (c : List Nat) : dot c (fun _ => 0) = 0 := by
  induction c with
  | nil => rfl
  | cons x c ih => rw [dot, ih, Nat.zero_mul]
theorem dot_add (c : List Nat) : ∀ g h : Nat → Nat, dot c (fun i => g i + h i) = dot c g + dot c h := by
  induction c with
  | nil => intro g h; rfl
  | cons x c ih => intro g h; rw [dot, dot, dot, ih, Nat.add_mul]; omega
theorem dot_mul (c : List Nat) (k : Nat) : ∀ g : Nat → Nat, dot c (fun i => k * g i) = k * dot c g := by
  induction c with
  | nil => intro g; rfl
  | cons x c ih => intro g; rw [dot, dot, ih, Nat.mul_add, Nat.mul_assoc]
theorem dot_var (c : List Nat) : ∀ j : Nat, dot c (fun i => bif Nat.beq i j then 1 else 0) = nth c j := by
  induction c with
  | nil => intro j; rfl
  | cons x c ih =>
    intro j
    cases j with
    | zero => exact (congrArg (1 * x + ·) (dot_zero c)).trans (Nat.one_mul x)
    | succ j => show _ = nth c j; rw [dot, ← Nat.zero_add (nth c j)]; exact congr (congrArg Nat.add (Nat.zero_mul x)) (ih j)
theorem dot_le (c : List Nat) : ∀ g h : Nat → Nat, (∀ i, i < c.length → g i ≤ h i) → dot c g ≤ dot c h := by
  induction c with
  | nil => intro g h _; exact Nat.le_refl 0
  | cons x c ih => intro g h H; exact Nat.add_le_add (Nat.mul_le_mul_right x (H 0 (Nat.succ_pos _))) (ih _ _ fun i q => H (i + 1) (Nat.succ_lt_succ q))
theorem den_co (c : List Nat) (t : T) : t.den c = t.k + dot c t.co := by
  induction t with
  | n k => exact (congrArg (k + ·) (dot_zero c)).symm
  | v j => exact ((Nat.zero_add _).trans (dot_var c j)).symm
  | a s t i1 i2 =>
    show s.den c + t.den c = s.k + t.k + dot c (fun i => s.co i + t.co i)
    rw [dot_add, i1, i2]
    exact Nat.add_add_add_comm _ _ _ _
  | m k t ih =>
    show k * t.den c = k * t.k + dot c (fun i => k * t.co i)
    rw [dot_mul, ih, Nat.mul_add]
  | r t k ih =>
    show t.den c * k = t.k * k + dot c (fun i => t.co i * k)
    rw [show (fun i => t.co i * k) = (fun i => k * t.co i) from funext fun i => Nat.mul_comm _ _, dot_mul, ih, Nat.add_mul, Nat.mul_comm k]
noncomputable def upTo (f : Nat → Bool) : Nat → Bool
  | 0 => true
  | n + 1 => f n && upTo f n
theorem upTo_is {f : Nat → Bool} {n : Nat} (h : upTo f n = true) : ∀ i, i < n → f i = true := by
  induction n with
  | zero => intro i q; exact absurd q (Nat.not_lt_zero i)
  | succ n ih =>
    intro i q
    have h2 := Bool.and_eq_true_iff.mp h
    rcases Nat.lt_succ_iff_lt_or_eq.mp q with q | q
    · exact ih h2.2 i q
    · rw [q]; exact h2.1
noncomputable def T.le (n : Nat) (s t : T) : Bool := Nat.ble s.k t.k && upTo (fun i => Nat.ble (s.co i) (t.co i)) n
theorem T.le_den {c : List Nat} {s t : T} (h : T.le c.length s t = true) : s.den c ≤ t.den c := by
  have h2 := Bool.and_eq_true_iff.mp h
  rw [den_co, den_co]
  exact Nat.add_le_add (Nat.le_of_ble_eq_true h2.1) (dot_le c _ _ fun i q => Nat.le_of_ble_eq_true (upTo_is h2.2 i q))
/-- facts that a sum leans on: `s`: m times p ≤ q; `e`: p = q, a times from left to right, b times from right to left -/
inductive C where
  | z
  | s (m : Nat) (p q : T) (r : C)
  | e (a b : Nat) (p q : T) (r : C)
noncomputable abbrev C.den (c : List Nat) (G : Prop) (H : C) : Prop := C.rec (motive := fun _ => Prop) G (fun _ p q _ r => p.den c ≤ q.den c → r) (fun _ _ p q _ r => p.den c = q.den c → r) H
noncomputable def C.up (g : T) : C → T
  | .z => g
  | .s m _ q r => .a (r.up g) (.m m q)
  | .e a b p q r => .a (r.up g) (.a (.m a q) (.m b p))
noncomputable def C.dn (g : T) : C → T
  | .z => g
  | .s m p _ r => .a (r.dn g) (.m m p)
  | .e a b p q r => .a (r.dn g) (.a (.m a p) (.m b q))
theorem C.of (c : List Nat) {G : Prop} {e f : T} (hG : e.den c ≤ f.den c → G) : ∀ {H : C} {x y : Nat}, ((H.up e).den c + x ≤ (H.dn f).den c + y) → y ≤ x → H.den c G := by
  intro H
  induction H with
  | z =>
    intro x y h1 h2
    exact hG (Nat.le_of_add_le_add_right (b := x) (Nat.le_trans h1 (Nat.add_le_add_left h2 _)))
  | s m p q r ih =>
    intro x y h1 h2 h3
    have h4 : m * p.den c ≤ m * q.den c := Nat.mul_le_mul_left m h3
    have h1 : (r.up e).den c + m * q.den c + x ≤ (r.dn f).den c + m * p.den c + y := h1
    exact ih (x := m * q.den c + x) (y := m * p.den c + y) (by rw [← Nat.add_assoc, ← Nat.add_assoc]; exact h1) (Nat.add_le_add h4 h2)
  | e a b p q r ih =>
    intro x y h1 h2 h3
    have h1 : (r.up e).den c + (a * q.den c + b * p.den c) + x ≤ (r.dn f).den c + (a * p.den c + b * q.den c) + y := h1
    exact ih (x := a * q.den c + b * p.den c + x) (y := a * p.den c + b * q.den c + y) (by rw [← Nat.add_assoc (T.den c (C.up e r)), ← Nat.add_assoc (T.den c (C.dn f r))]; exact h1) (Nat.add_le_add (by rw [h3]; exact Nat.le_refl _) h2)
theorem lin (c : List Nat) (e f : T) (H : C) (ok : T.le c.length (H.up e) (H.dn f) = true) : H.den c (e.den c ≤ f.den c) :=
  C.of c (G := e.den c ≤ f.den c) (fun h => h) (x := 0) (y := 0) (T.le_den ok) (Nat.le_refl 0)
theorem lif (c : List Nat) (H : C) (ok : T.le c.length (H.up (.n 1)) (H.dn (.n 0)) = true) : H.den c False :=
  C.of c (e := .n 1) (f := .n 0) (fun h => Nat.not_succ_le_zero 0 h) (x := 0) (y := 0) (T.le_den ok) (Nat.le_refl 0)
theorem lid (c : List Nat) (e f : T) (ok : (T.le c.length e f && T.le c.length f e) = true) : e.den c = f.den c :=
  Nat.le_antisymm (T.le_den (Bool.and_eq_true_iff.mp ok).1) (T.le_den (Bool.and_eq_true_iff.mp ok).2)
theorem subx (a b : Nat) : a ≤ a - b + b := by omega
theorem nle {a b : Nat} (h : ¬ a ≤ b) : b + 1 ≤ a := Nat.lt_of_not_le h
theorem nlt' {a b : Nat} (h : ¬ a < b) : b ≤ a := Nat.le_of_not_lt h
example (a b c d : Nat) (h : a ≤ 140) (h3 : b ≤ 140) (h5 : c = a + b + 1): c + d ≤ 1000 + d := lin [_, _, _, _] (.a (.v 0) (.v 1)) (.a (.n 1000) (.v 1)) (.e 1 0 (.v 0) (.a (.a (.v 2) (.v 3)) (.n 1)) (.s 1 (.v 2) (.n 140) (.s 1 (.v 3) (.n 140) .z))) rfl h5 h h3
example (x y : List Nat) (h : x.length < y.length) (h3 : y.length ≤ 140) : x.length ≤ 200 := lin [_, _] (.v 0) (.n 200) (.s 1 (.a (.v 0) (.n 1)) (.v 1) (.s 1 (.v 1) (.n 140) .z)) rfl h h3
example (x y : List Nat) (h : x.length < y.length) (h3 : y.length ≤ 2^64) : x.length < 2^64 := lin [_, _] (.a (.v 0) (.n 1)) (.n 18446744073709551616) (.s 1 (.a (.v 0) (.n 1)) (.v 1) (.s 1 (.v 1) (.n 18446744073709551616) .z)) rfl h h3
example (a b c : Nat)  : a + (b + 1) + c = b + c + (a + 1) := lid [a, b, c] (.a (.a (.v 0) (.a (.v 1) (.n 1))) (.v 2)) (.a (.a (.v 1) (.v 2)) (.a (.v 0) (.n 1))) rfl
example (a b c : Nat)  : a + (b + 1) + c = b + c + (a + 1) := lid [_, _, _] (.a (.a (.v 0) (.a (.v 1) (.n 1))) (.v 2)) (.a (.a (.v 1) (.v 2)) (.a (.v 0) (.n 1))) rfl
end Mine
end

-- the text M1
section
open PySem PySem.Calls PySem.W PyProof.Rows
set_option maxRecDepth 100000
namespace Mine

abbrev PH := Addr → Option Obj
noncomputable def PSub (G : PH) (h : Heap) : Prop := ∀ b o, G b = some o → h.get? b = some o
noncomputable def PLe (G G' : PH) : Prop := ∀ b o, G b = some o → G' b = some o

/-- data: what a value says, tokens and addresses forgotten -/
inductive D where
  | none | bool (b : Bool) | int (i : Int) | str (s : Str)
  | list (l : List D) | tuple (l : List D) | raw (v : Value) | rng (a b c : Int)

inductive V where
  | d (x : D) | mu (k : Nat) | bm (k : Nat)

inductive Mut where
  | dead | list (l : List V)

mutual
inductive Is (G : PH) : D → Value → Prop
  | none : Is G .none .none
  | bool (b : Bool) : Is G (.bool b) (.bool b)
  | int (i : Int) (t : Tok) : Is G (.int i) (.int i t)
  | str (s : Str) (t : Tok) : Is G (.str s) (.str s t)
  | list {a : Addr} {o : Obj} {vs : Array Value} {n : Nat} {l : List D} : G a = some o → o.cls = .type "list" → o.data = .seq vs n → IsL G l vs.toList → Is G (.list l) (.ref a)
  | tuple {a : Addr} {o : Obj} {vs : Array Value} {n : Nat} {l : List D} : G a = some o → o.cls = .type "tuple" → o.data = .seq vs n → IsL G l vs.toList → Is G (.tuple l) (.ref a)
  | raw (v : Value) : Is G (.raw v) v
  | rng {r : Addr} {a b c : Int} {t u v : Tok} : G r = some { cls := .type "range", dict := none, data := .fields #[.int a t, .int b u, .int c v], slots := #[] } → Is G (.rng a b c) (.ref r)
inductive IsL (G : PH) : List D → List Value → Prop
  | nil : IsL G [] []
  | cons {d : D} {v : Value} {ds : List D} {vs : List Value} : Is G d v → IsL G ds vs → IsL G (d :: ds) (v :: vs)
end
noncomputable def Shp (G : PH) : D → Value → Prop
  | .none, v => v = .none
  | .bool b, v => v = .bool b
  | .int i, v => ∃ t, v = .int i t
  | .str i, v => ∃ t, v = .str i t
  | .list l, v => ∃ a o vs n, v = .ref a ∧ G a = some o ∧ o.cls = .type "list" ∧ o.data = .seq vs n ∧ IsL G l vs.toList
  | .tuple l, v => ∃ a o vs n, v = .ref a ∧ G a = some o ∧ o.cls = .type "tuple" ∧ o.data = .seq vs n ∧ IsL G l vs.toList
  | .raw w, v => v = w
  | .rng a b c, v => ∃ r t u x, v = .ref r ∧ G r = some { cls := .type "range", dict := none, data := .fields #[.int a t, .int b u, .int c x], slots := #[] }
theorem Is.inv {G : PH} {d : D} {v : Value} (h : Is G d v) : Shp G d v := by
  cases h with
  | none => exact rfl
  | bool => exact rfl
  | int i t => exact ⟨t, rfl⟩
  | str i t => exact ⟨t, rfl⟩
  | list h1 h2 h3 h4 => exact ⟨_, _, _, _, rfl, h1, h2, h3, h4⟩
  | tuple h1 h2 h3 h4 => exact ⟨_, _, _, _, rfl, h1, h2, h3, h4⟩
  | raw => exact rfl
  | rng h => exact ⟨_, _, _, _, rfl, h⟩
noncomputable def ShpL (G : PH) : List D → List Value → Prop
  | [], vs => vs = []
  | d :: ds, vs => ∃ v r, vs = v :: r ∧ Is G d v ∧ IsL G ds r
theorem IsL.inv {G : PH} {ds : List D} {vs : List Value} (h : IsL G ds vs) : ShpL G ds vs := by
  cases h with
  | nil => exact rfl
  | cons h1 h2 => exact ⟨_, _, rfl, h1, h2⟩

theorem Is.mono {G G' : PH} (k : PLe G G') {d : D} {v : Value} (h : Is G d v) : Is G' d v :=
  Is.rec (motive_1 := fun d v _ => Is G' d v) (motive_2 := fun l vs _ => IsL G' l vs) .none .bool .int .str (fun h1 h2 h3 _ ih => .list (k _ _ h1) h2 h3 ih) (fun h1 h2 h3 _ ih => .tuple (k _ _ h1) h2 h3 ih) .raw (fun h => .rng (k _ _ h)) .nil (fun _ _ a b => .cons a b) h
theorem IsL.mono {G G' : PH} (k : PLe G G') {l : List D} {vs : List Value} (h : IsL G l vs) : IsL G' l vs :=
  IsL.rec (motive_1 := fun _ _ _ => True) (motive_2 := fun l vs _ => IsL G' l vs) trivial (fun _ => trivial) (fun _ _ => trivial) (fun _ _ => trivial) (fun _ _ _ _ _ => trivial) (fun _ _ _ _ _ => trivial) (fun _ => trivial) (fun _ => trivial) .nil (fun a _ _ b => .cons (Is.mono k a) b) h

theorem IsL.length {G : PH} {l : List D} {vs : List Value} (h : IsL G l vs) : vs.length = l.length := by
  induction l generalizing vs with
  | nil => rw [IsL.inv h]; rfl
  | cons d l ih => obtain ⟨v, r, rfl, h1, h2⟩ := IsL.inv h; exact congrArg Nat.succ (ih h2)
theorem IsL.get {G : PH} {l : List D} {vs : List Value} {i : Nat} {d : D} (h : IsL G l vs) (e : l[i]? = some d) : ∃ v, vs[i]? = some v ∧ Is G d v := by
  induction l generalizing vs i with
  | nil => cases e
  | cons d l ih =>
    obtain ⟨v, r, rfl, h1, h2⟩ := IsL.inv h
    cases i with
    | zero => cases e; exact ⟨_, rfl, h1⟩
    | succ i => exact ih (vs := r) (i := i) h2 e
theorem IsL.append {G : PH} {l : List D} {vs : List Value} {l' : List D} {vs' : List Value} (h : IsL G l vs) (h' : IsL G l' vs') : IsL G (l ++ l') (vs ++ vs') := by
  induction l generalizing vs with
  | nil => rw [IsL.inv h]; exact h'
  | cons d l ih => obtain ⟨v, r, rfl, h1, h2⟩ := IsL.inv h; exact .cons h1 (ih h2)
theorem IsL.drop {G : PH} {l : List D} {vs : List Value} (n : Nat) (h : IsL G l vs) : IsL G (l.drop n) (vs.drop n) := by
  induction n generalizing l vs with
  | zero => exact h
  | succ n ih =>
    cases l with
    | nil => rw [IsL.inv h]; exact .nil
    | cons d l => obtain ⟨v, r, rfl, h1, h2⟩ := IsL.inv h; exact ih h2
theorem IsL.take {G : PH} {l : List D} {vs : List Value} (n : Nat) (h : IsL G l vs) : IsL G (l.take n) (vs.take n) := by
  induction n generalizing l vs with
  | zero => exact .nil
  | succ n ih =>
    cases l with
    | nil => rw [IsL.inv h]; exact .nil
    | cons d l => obtain ⟨v, r, rfl, h1, h2⟩ := IsL.inv h; exact .cons h1 (ih h2)
theorem IsL.reverse {G : PH} {l : List D} {vs : List Value} (h : IsL G l vs) : IsL G l.reverse vs.reverse := by
  induction l generalizing vs with
  | nil => rw [IsL.inv h]; exact .nil
  | cons d l ih => obtain ⟨v, r, rfl, h1, h2⟩ := IsL.inv h; rw [List.reverse_cons, List.reverse_cons]; exact (ih h2).append (.cons h1 .nil)

noncomputable def IsV (G : PH) (ad : List Addr) : V → Value → Prop
  | .d x, v => Is G x v
  | .mu k, v => ∃ a, ad[k]? = some a ∧ v = .ref a
  | .bm k, v => ∃ a b, ad[k]? = some a ∧ v = .ref b ∧ G b = some { cls := .type "builtin_function_or_method", data := .fields #[.builtin "list.append", .ref a] }
theorem IsV.mono {G G' : PH} {ad : List Addr} (k : PLe G G') : ∀ {x : V} {v : Value}, IsV G ad x v → IsV G' ad x v
  | .d _, _, h => Is.mono k h
  | .mu _, _, h => h
  | .bm _, _, ⟨a, b, h1, h2, h3⟩ => ⟨a, b, h1, h2, k _ _ h3⟩
theorem IsV.more {G : PH} {ad ad' : List Addr} (k : ∀ (i : Nat) (a : Addr), ad[i]? = some a → ad'[i]? = some a) : ∀ {x : V} {v : Value}, IsV G ad x v → IsV G ad' x v
  | .d _, _, h => h
  | .mu _, _, ⟨a, e, h⟩ => ⟨a, k _ _ e, h⟩
  | .bm _, _, ⟨a, b, h1, h2, h3⟩ => ⟨a, b, k _ _ h1, h2, h3⟩
inductive IsVL (G : PH) (ad : List Addr) : List V → List Value → Prop
  | nil : IsVL G ad [] []
  | cons {d : V} {v : Value} {ds : List V} {vs : List Value} : IsV G ad d v → IsVL G ad ds vs → IsVL G ad (d :: ds) (v :: vs)
theorem IsVL.mono {G G' : PH} {ad : List Addr} (k : PLe G G') {l : List V} {vs : List Value} (h : IsVL G ad l vs) : IsVL G' ad l vs := by
  induction h with
  | nil => exact .nil
  | cons h1 _ ih => exact .cons (IsV.mono k h1) ih
theorem IsVL.more {G : PH} {ad ad' : List Addr} (k : ∀ (i : Nat) (a : Addr), ad[i]? = some a → ad'[i]? = some a) {l : List V} {vs : List Value} (h : IsVL G ad l vs) : IsVL G ad' l vs := by
  induction h with
  | nil => exact .nil
  | cons h1 _ ih => exact .cons (IsV.more k h1) ih
theorem IsVL.length {G : PH} {ad : List Addr} {l : List V} {vs : List Value} (h : IsVL G ad l vs) : vs.length = l.length := by
  induction h with
  | nil => rfl
  | cons _ _ ih => simp [ih]
theorem IsVL.append {G : PH} {ad : List Addr} {l : List V} {vs : List Value} {l' : List V} {vs' : List Value} (h : IsVL G ad l vs) (h' : IsVL G ad l' vs') : IsVL G ad (l ++ l') (vs ++ vs') := by
  induction h with
  | nil => exact h'
  | cons h1 _ ih => exact .cons h1 ih
theorem IsVL.get {G : PH} {ad : List Addr} {l : List V} {vs : List Value} (h : IsVL G ad l vs) : ∀ {i : Nat} {d : V}, l[i]? = some d → ∃ v, vs[i]? = some v ∧ IsV G ad d v := by
  induction h with
  | nil => intro i d e; simp at e
  | cons h1 _ ih =>
    intro i d e
    cases i with
    | zero => simp at e; subst e; exact ⟨_, rfl, h1⟩
    | succ i => simp at e; simpa using ih e

noncomputable def MutAt (G : PH) (ad : List Addr) (h : Heap) (k : Nat) : Mut → Prop
  | .dead => True
  | .list l => ∃ (a : Addr) (vs : Array Value), ad[k]? = some a ∧ h.PlainList a vs ∧ IsVL G ad l vs.toList
noncomputable def Mut.alive : Mut → Prop
  | .dead => False
  | .list _ => True

/-- the code table of `_translate` (the one thing of the top that grows) -/
noncomputable def tabA : Addr := 57

/-- what is known of the code table: the codes that stand in it bear the right names -/
noncomputable def posL : Pos := ⟨67, 39, 67, 76⟩
noncomputable def qL : Str := "_translate.<locals>.<lambda>"
noncomputable def TabInv (G : PH) (h : Heap) : Prop := ∃ ps : Array Value, h.get? tabA = some { cls := .none, data := .fields ps } ∧ TriplesOk ps.toList ∧
  ∀ c, codeAmong posL ps.toList = some c → ∃ a o vs t, c = .ref a ∧ G a = some o ∧ o.data = .fields vs ∧ vs[1]? = some (.str qL t)

/-- not there yet -/
noncomputable def New (h : Heap) (b : Addr) : Prop := h.get? b = none
theorem New.ne {h : Heap} {a b : Addr} {o : Obj} (x : New h a) (e : h.get? b = some o) : b ≠ a := fun q => by
  subst q
  have x' : h.get? b = none := x
  rw [x'] at e; cases e
theorem new_size (h : Heap) : New h h.objs.size := by
  unfold New
  cases q : h.get? h.objs.size with
  | none => rfl
  | some o => exact absurd (Heap.lt_size q) (Nat.lt_irrefl _)
theorem new_ge {h : Heap} {a : Addr} (x : h.objs.size ≤ a) : New h a := by
  unfold New
  cases q : h.get? a with
  | none => rfl
  | some o => exact absurd (Heap.lt_size q) (Nat.not_lt.mpr x)

/-- a pure step: everything kept but X, G grown by fresh objects alone -/
structure Grow (X : List Addr) (G : PH) (s : Shared) (G' : PH) (s' : Shared) : Prop where
  keep : ∀ b o, b ∉ X → s.heap.get? b = some o → s'.heap.get? b = some o
  there : ∀ b o, s.heap.get? b = some o → ∃ o', s'.heap.get? b = some o'
  le : PLe G G'
  sub : PSub G' s'.heap
  fresh : ∀ b o, G' b = some o → G b = some o ∨ New s.heap b
  tab : TabInv G s.heap → TabInv G' s'.heap
  os : s'.os = s.os
  gens : AllBare s.gens → AllBare s'.gens

theorem Grow.refl {X : List Addr} {G : PH} {s : Shared} (h : PSub G s.heap) : Grow X G s G s :=
  ⟨fun _ _ _ e => e, fun _ _ e => ⟨_, e⟩, fun _ _ e => e, h, fun _ _ e => .inl e, id, rfl, id⟩
theorem Grow.trans {X : List Addr} {G G' G'' : PH} {s s' s'' : Shared} (x : Grow X G s G' s') (y : Grow X G' s' G'' s'') : Grow X G s G'' s'' :=
  ⟨fun b o hb e => y.keep b o hb (x.keep b o hb e), fun b o e => let ⟨_, e'⟩ := x.there b o e; y.there b _ e', fun b o e => y.le b o (x.le b o e), y.sub,
    fun b o e => (y.fresh b o e).elim (x.fresh b o) fun h => .inr (by
      unfold New
      cases q : s.heap.get? b with
      | none => rfl
      | some o' => obtain ⟨o'', e'⟩ := x.there b o' q; exact absurd rfl (h.ne e')), fun t => y.tab (x.tab t), y.os.trans x.os, fun t => y.gens (x.gens t)⟩
theorem Grow.mono {X X' : List Addr} {G G' : PH} {s s' : Shared} (x : Grow X G s G' s') (h : ∀ b ∈ X, b ∈ X') : Grow X' G s G' s' :=
  ⟨fun b o hb e => x.keep b o (fun q => hb (h b q)) e, x.there, x.le, x.sub, x.fresh, x.tab, x.os, x.gens⟩

/-- the heap of s' has all of the heap of s, nothing else is turned -/
structure Same (s s' : Shared) : Prop where
  keep : ∀ b o, s.heap.get? b = some o → s'.heap.get? b = some o
  os : s'.os = s.os
  gens : s'.gens = s.gens
theorem Same.toks (s : Shared) (t : Nat) : Same s { s with toks := t } := ⟨fun _ _ e => e, rfl, rfl⟩
theorem Same.push (s : Shared) (o : Obj) (t : Nat) : Same s { s with heap := s.heap.push o, toks := t } := ⟨fun _ _ e => Heap.get?_push_of_some _ e, rfl, rfl⟩
theorem Same.of (s : Shared) {h' : Heap} (t : Nat) (k : ∀ b o, s.heap.get? b = some o → h'.get? b = some o) : Same s { s with heap := h', toks := t } := ⟨k, rfl, rfl⟩
theorem Same.refl (s : Shared) : Same s s := ⟨fun _ _ e => e, rfl, rfl⟩
theorem Same.trans {s s' s'' : Shared} (x : Same s s') (y : Same s' s'') : Same s s'' :=
  ⟨fun b o e => y.keep b o (x.keep b o e), y.os.trans x.os, y.gens.trans x.gens⟩
theorem TabInv.mono {G G' : PH} {h : Heap} (x : TabInv G h) (le : PLe G G') : TabInv G' h := let ⟨ps, e, ht, r⟩ := x; ⟨ps, e, ht, fun c hc => let ⟨a, o, vs, t, h1, h2, h3⟩ := r c hc; ⟨a, o, vs, t, h1, le _ _ h2, h3⟩⟩
theorem TabInv.at' {G : PH} {h h' : Heap} (x : TabInv G h) (k : ∀ o, h.get? tabA = some o → h'.get? tabA = some o) : TabInv G h' := let ⟨ps, e, r⟩ := x; ⟨ps, k _ e, r⟩
theorem TabInv.keeps {G : PH} {h h' : Heap} (x : TabInv G h) (k : ∀ b o, h.get? b = some o → h'.get? b = some o) : TabInv G h' := x.at' (k _)
theorem TabInv.there {G : PH} {h : Heap} (x : TabInv G h) : ∃ o, h.get? tabA = some o := let ⟨_, e, _⟩ := x; ⟨_, e⟩
theorem Same.grow {X : List Addr} {G : PH} {s s' : Shared} (x : Same s s') (h : PSub G s.heap) : Grow X G s G s' :=
  ⟨fun b o _ e => x.keep b o e, fun b o e => ⟨o, x.keep b o e⟩, fun _ _ e => e, fun b o e => x.keep b o (h b o e), fun _ _ e => .inl e, fun t => t.keeps x.keep, x.os, fun t => by rw [x.gens]; exact t⟩

/-- one more object of G -/
noncomputable def PH.put (G : PH) (a : Addr) (o : Obj) : PH := fun b => if b = a then some o else G b
theorem PH.put_self (G : PH) (a : Addr) (o : Obj) : G.put a o a = some o := by simp [PH.put]
theorem PH.put_le {G : PH} {h : Heap} {a : Addr} (o : Obj) (hs : PSub G h) (ha : New h a) : PLe G (G.put a o) := fun b o' e => by
  unfold PH.put; rw [if_neg (ha.ne (hs _ _ e))]; exact e
set_option tactic.hygienic true in
theorem Same.growPut {X : List Addr} {G : PH} {s s' : Shared} {a : Addr} {o : Obj} (x : Same s s') (h : PSub G s.heap) (ha : New s.heap a) (ho : s'.heap.get? a = some o) : Grow X G s (G.put a o) s' := by
  refine ⟨fun b o _ e => x.keep b o e, fun b o e => ⟨o, x.keep b o e⟩, PH.put_le o h ha, fun b o' e => ?_, fun b o' e => ?_, fun t => (t.keeps x.keep).mono (PH.put_le o h ha), x.os, fun t => by rw [x.gens]; exact t⟩
  · unfold PH.put at e
    split at e
    · rename_i hb; subst hb; cases e; exact ho
    · exact x.keep _ _ (h _ _ e)
  · unfold PH.put at e
    split at e
    · rename_i hb; subst hb; exact .inr ha
    · exact .inl e

abbrev Nope : Value → Shared → Prop := fun _ _ => False
theorem wpg {M : Model} {A : Around} {α : Type} {m : Sem α} {s : Shared} {P1 P2 : α → Shared → PH → Prop} {Q : α → Shared → Prop} (h : wpAny M A m (fun y s' => ∃ G', P1 y s' G' ∧ P2 y s' G') Nope s) (k : ∀ y s' G', P1 y s' G' → P2 y s' G' → Q y s') : wpAny M A m Q Nope s :=
  wpAny_mono h (fun y s' q => let ⟨G', a, b⟩ := q; k y s' G' a b) fun _ _ f => f

/-- room for n calls -/
structure Room (A : Around) (n : Nat) : Prop where
  handled : A.handled = none
  depth : A.depth + n ≤ 900
  units : A.units + 100 * n ≤ 9000
theorem Room.le {A : Around} {m n : Nat} (x : Room A n) (h : m ≤ n) : Room A m := ⟨x.handled, by have := x.depth; omega, by have := x.units; omega⟩
theorem Room.in1 {A : Around} {n : Nat} (x : Room A (n + 1)) : Room A.in1 n := ⟨x.handled, by have := x.depth; simp only [Around.in1_depth]; omega, by have := x.units; simp only [Around.in1_units]; omega⟩
theorem Room.deeper {A : Around} {n : Nat} {env : Env} (x : Room A (n + 1)) : Room (A.deeper env) n := ⟨x.handled, by have := x.depth; show A.depth + 1 + n ≤ 900; omega, by have := x.units; show A.units + 3 + 100 * n ≤ 9000; omega⟩
theorem Room.room {A : Around} {n : Nat} (x : Room A n) : A.depth < recursionLimit := by have := x.depth; show A.depth < 1000; omega
theorem Room.cline {A : Around} {n : Nat} (x : Room A n) : A.units < cLine := by have := x.units; show A.units < 9900; omega
theorem room_caller : Room callerA 80 := ⟨rfl, by show 1 + 300 + 80 ≤ 900; omega, by show 4 + 100 * 80 ≤ 9000; omega⟩

/-- a tree that gives d, pure -/
noncomputable def Gives (M : Model) (X : List Addr) (A : Around) (t : Sem Value) (G : PH) (s : Shared) (d : D) : Prop :=
  wpAny M A t (fun v s' => ∃ G', Grow X G s G' s' ∧ Is G' d v) Nope s

theorem nope_any {α : Type} {M : Model} {A : Around} {t : Sem α} {Q : α → Shared → Prop} {E : Value → Shared → Prop} {s : Shared} (h : wpAny M A t Q Nope s) : wpAny M A t Q E s :=
  wpAny_mono h (fun _ _ q => q) fun _ _ f => f.elim

/-- the top, as the functions need it -/
structure TopF (K : Frag) (h : Heap) : Prop where
  obj : K.In h
  glob : ∃ mg, h.Ns mainGlobals mg
  blt : ∃ mb, h.Ns builtinsNs mb ∧ ∀ x ∈ (["len", "chr", "range", "enumerate", "iter", "next", "zip", "isinstance", "str", "list"] : List Str), mb x = bootBuiltins x
  nolimit : h.NoLimit
  bmod : ∃ ob, h.get? 4 = some ob ∧ ob.cls = .type "module" ∧ ob.dict = some builtinsNs ∧ ob.data = .plain

end Mine
end

-- the text M2
section
open PySem PySem.Calls PySem.W PyProof.Rows
set_option maxRecDepth 100000
namespace Mine

noncomputable def setV (x : Str) (v : V) : List (Str × V) → List (Str × V)
  | [] => [(x, v)]
  | (y, w) :: r => if y == x then (x, v) :: r else (y, w) :: setV x v r
theorem setV_lookup (x : Str) (v : V) (y : Str) : ∀ l : List (Str × V), (setV x v l).lookup y = if y = x then some v else l.lookup y
  | [] => by
    show List.lookup y [(x, v)] = _
    rw [List.lookup_cons]
    by_cases h : y = x
    · subst h; simp
    · have : (y == x) = false := beq_eq_false_iff_ne.mpr h
      simp [this, h]
  | (z, w) :: r => by
    unfold setV
    by_cases hz : z = x
    · subst hz
      simp only [beq_self_eq_true, if_true, List.lookup_cons]
      by_cases h : y = z
      · subst h; simp
      · have : (y == z) = false := beq_eq_false_iff_ne.mpr h
        simp [this, h]
    · have hz' : (z == x) = false := beq_eq_false_iff_ne.mpr hz
      simp only [hz', Bool.false_eq_true, if_false, List.lookup_cons]
      by_cases h : y = z
      · subst h; simp [hz]
      · have : (y == z) = false := beq_eq_false_iff_ne.mpr h
        simp only [this]
        exact setV_lookup x v y r

structure State where
  vars : List (Str × V)
  muts : List Mut
noncomputable def State.set (S : State) (x : Str) (v : V) : State := { S with vars := setV x v S.vars }
noncomputable def State.get (S : State) (x : Str) : Option V := S.vars.lookup x
theorem State.get_set (S : State) (x : Str) (v : V) (y : Str) : (S.set x v).get y = if y = x then some v else S.get y := setV_lookup x v y S.vars
noncomputable def State.upd (S : State) (k : Nat) (m : Mut) : State := { S with muts := S.muts.set k m }
noncomputable def State.new (S : State) (m : Mut) : State := { S with muts := S.muts ++ [m] }

structure Cx where
  env : Env
  s₀ : Shared
  G₀ : PH
  X : List Addr
  cs : List Addr

structure Sx where
  scope : Scope
  code : Value
  qual : Str
  fn : Bool
noncomputable def Cx.sx (c : Cx) : Sx := ⟨c.env.scope, c.env.code, c.env.qual, !c.cs.isEmpty⟩
theorem Cx.fn_ne {c : Cx} (h : c.sx.fn = true) : c.cs ≠ [] := fun e => by
  have h' : (!c.cs.isEmpty) = true := h
  rw [e] at h'; cases h'

structure CxOk (K : Frag) (c : Cx) : Prop where
  glob : c.env.globals = mainGlobals
  blt : c.env.builtins = builtinsNs
  kind : c.env.scope.kind = .function
  L : New c.s₀.heap c.env.locals
  cs : ∀ a ∈ c.cs, New c.s₀.heap a
  Lcs : c.env.locals ∉ c.cs
  top : TopF K c.s₀.heap
  tabX : tabA ∈ c.X
  X : ∀ b ∈ c.X, (∃ o, c.s₀.heap.get? b = some o) ∧ K.lookup b = none ∧ b ≠ mainGlobals ∧ b ≠ builtinsNs ∧ b ≠ cStatics ∧ b ≠ 4
  addr : ∀ x a, c.env.cells.lookup x = some a → a ∈ c.cs ∨ ((∃ o, c.s₀.heap.get? a = some o) ∧ a ∉ c.X)
  inj : ∀ x y a, c.env.cells.lookup x = some a → c.env.cells.lookup y = some a → x = y
  own : ∀ x, c.env.kindOf x = some .cell → c.cs ≠ [] → ∃ a, c.env.cells.lookup x = some a ∧ a ∈ c.cs
  sub₀ : PSub c.G₀ c.s₀.heap
  g₀X : ∀ b ∈ c.X, c.G₀ b = none
  kg : ∀ a o, K.lookup a = some o → c.G₀ a = some o

structure St (c : Cx) (G : PH) (ad : List Addr) (S : State) (s : Shared) : Prop where
  keep : ∀ b o, b ∉ c.X → c.s₀.heap.get? b = some o → s.heap.get? b = some o
  thX : ∀ b ∈ c.X, ∃ o, s.heap.get? b = some o
  le : PLe c.G₀ G
  sub : PSub G s.heap
  fresh : ∀ b o, G b = some o → c.G₀ b = some o ∨ New c.s₀.heap b
  tab : TabInv G s.heap
  os : s.os = c.s₀.os
  gens : AllBare s.gens
  ns : ∃ m, s.heap.Ns c.env.locals m ∧ ∀ x v, S.get x = some v → c.env.kindOf x = some .local → ∃ y, m x = some y ∧ IsV G ad v y
  cell : ∀ x v, S.get x = some v → (c.env.kindOf x = some .cell ∨ c.env.kindOf x = some .free) → ∃ a y, c.env.cells.lookup x = some a ∧ s.heap.IsCell a (some y) ∧ IsV G ad v y
  cex : ∀ a ∈ c.cs, ∃ y, s.heap.IsCell a y
  offL : G c.env.locals = none
  offC : ∀ a ∈ c.cs, G a = none
  mt : ∀ (k : Nat) (m : Mut), S.muts[k]? = some m → MutAt G ad s.heap k m
  offM : ∀ (k : Nat) (m : Mut) (a : Addr), S.muts[k]? = some m → m.alive → ad[k]? = some a → G a = none ∧ a ≠ c.env.locals ∧ a ∉ c.cs ∧ New c.s₀.heap a
  apart : ∀ (j k : Nat) (m m' : Mut) (a : Addr), S.muts[j]? = some m → S.muts[k]? = some m' → m.alive → m'.alive → ad[j]? = some a → ad[k]? = some a → j = k
  len : ad.length = S.muts.length

noncomputable def Inv (c : Cx) (S : State) (s : Shared) : Prop := ∃ G ad, St c G ad S s

theorem MutAt.there {G : PH} {ad : List Addr} {h : Heap} {k : Nat} {m : Mut} {a : Addr} (x : MutAt G ad h k m) (ha : m.alive) (hk : ad[k]? = some a) : ∃ o, h.get? a = some o := by
  cases m with
  | dead => exact ha.elim
  | list l => obtain ⟨a', vs, e', ⟨_, e⟩, _⟩ := x; rw [hk] at e'; cases e'; exact ⟨_, e⟩
/-- a mutable that lies where it lay -/
theorem MutAt.kept {G G' : PH} {ad ad' : List Addr} {h h' : Heap} {k : Nat} {m : Mut} (x : MutAt G ad h k m) (hk : m.alive → ∀ a, ad[k]? = some a → ∀ o, h.get? a = some o → h'.get? a = some o) (hG : PLe G G') (hm : ∀ (i : Nat) (a : Addr), ad[i]? = some a → ad'[i]? = some a) : MutAt G' ad' h' k m := by
  cases m with
  | dead => trivial
  | list l => obtain ⟨a', vs, e', ⟨n, e⟩, h⟩ := x; exact ⟨a', vs, hm _ _ e', ⟨n, hk trivial _ e' _ e⟩, (h.mono hG).more hm⟩

theorem St.notX {K : Frag} {c : Cx} (C : CxOk K c) {b : Addr} (h : New c.s₀.heap b) : b ∉ c.X := fun q => by
  obtain ⟨o, e⟩ := (C.X b q).1
  exact h.ne e rfl

section
variable {K : Frag} {c : Cx} {G G' : PH} {ad : List Addr} {S : State} {s s' : Shared}

/-- what is not there now was not there at the start -/
theorem St.new (x : St c G ad S s) {b : Addr} (h : New s.heap b) : New c.s₀.heap b := by
  unfold New
  cases q : c.s₀.heap.get? b with
  | none => rfl
  | some o =>
    by_cases hb : b ∈ c.X
    · obtain ⟨o', e⟩ := x.thX b hb; exact absurd rfl (h.ne e)
    · exact absurd rfl (h.ne (x.keep b o hb q))

theorem St.top (C : CxOk K c) (x : St c G ad S s) : TopF K s.heap where
  obj := fun a o e => x.keep a o (fun q => by rw [(C.X a q).2.1] at e; cases e) (C.top.obj a o e)
  glob := by
    obtain ⟨mg, o, es, ep, e, r⟩ := C.top.glob
    exact ⟨mg, o, es, ep, x.keep _ _ (fun q => (C.X _ q).2.2.1 rfl) e, r⟩
  blt := by
    obtain ⟨mb, ⟨o, es, ep, e, r⟩, r2⟩ := C.top.blt
    exact ⟨mb, ⟨o, es, ep, x.keep _ _ (fun q => (C.X _ q).2.2.2.1 rfl) e, r⟩, r2⟩
  nolimit := by
    obtain ⟨mc, ⟨o, es, ep, e, r⟩, r2⟩ := C.top.nolimit
    exact ⟨mc, ⟨o, es, ep, x.keep _ _ (fun q => (C.X _ q).2.2.2.2.1 rfl) e, r⟩, r2⟩
  bmod := by
    obtain ⟨ob, e, r⟩ := C.top.bmod
    exact ⟨ob, x.keep _ _ (fun q => (C.X _ q).2.2.2.2.2 rfl) e, r⟩

theorem St.grow (C : CxOk K c) (x : St c G ad S s) {X' : List Addr} (g : Grow X' G s G' s') (hX : ∀ b ∈ X', b ∈ c.X) : St c G' ad S s' := by
  have kL : ∀ b, New c.s₀.heap b → ∀ o, s.heap.get? b = some o → s'.heap.get? b = some o := fun b hb o e => g.keep b o (fun q => St.notX C hb (hX b q)) e
  have off : ∀ b o, s.heap.get? b = some o → G b = none → G' b = none := fun b o' hb e => by
    cases q : G' b with
    | none => rfl
    | some o => exact (g.fresh b o q).elim (fun z => by rw [e] at z; cases z) fun z => absurd rfl (z.ne hb)
  obtain ⟨m, hn, hm⟩ := x.ns
  refine ⟨fun b o hb e => g.keep b o (fun q => hb (hX b q)) (x.keep b o hb e), fun b hb => let ⟨o, e⟩ := x.thX b hb; g.there b o e, fun b o e => g.le b o (x.le b o e), g.sub, fun b o e => ?_, g.tab x.tab, g.os.trans x.os, g.gens x.gens, ?_, ?_, ?_, ?_, ?_, ?_, ?_, x.apart, x.len⟩
  · exact (g.fresh b o e).elim (x.fresh b o) fun h => .inr (x.new h)
  · obtain ⟨o, es, ep, e, r⟩ := hn
    exact ⟨m, ⟨o, es, ep, kL _ C.L _ e, r⟩, fun y v h1 h2 => let ⟨z, h3, h4⟩ := hm y v h1 h2; ⟨z, h3, h4.mono g.le⟩⟩
  · intro y v h1 h2
    obtain ⟨a, z, h3, ⟨o, e, hd⟩, h5⟩ := x.cell y v h1 h2
    refine ⟨a, z, h3, ⟨o, ?_, hd⟩, h5.mono g.le⟩
    rcases C.addr y a h3 with h | h
    · exact kL _ (C.cs a h) _ e
    · exact g.keep a o (fun q => h.2 (hX a q)) e
  · intro a ha
    obtain ⟨y, o, e, hd⟩ := x.cex a ha
    exact ⟨y, o, kL _ (C.cs a ha) _ e, hd⟩
  · obtain ⟨o, _, _, e, _⟩ := hn
    exact off _ o e x.offL
  · intro a ha
    obtain ⟨y, o, e, hd⟩ := x.cex a ha
    exact off _ o e (x.offC a ha)
  · intro k m' hk
    exact (x.mt k m' hk).kept (fun ha a e o => kL a (x.offM k m' a hk ha e).2.2.2 o) g.le fun _ _ e => e
  · intro k m' a hk ha e
    obtain ⟨h1, h2, h3, h4⟩ := x.offM k m' a hk ha e
    obtain ⟨o, ho⟩ := (x.mt k m' hk).there ha e
    exact ⟨off _ o ho h1, h2, h3, h4⟩

/-- fewer things said -/
theorem St.weaken (x : St c G ad S s) {vars : List (Str × V)} (h : ∀ y v, vars.lookup y = some v → S.get y = some v) : St c G ad { S with vars := vars } s :=
  { x with
    ns := let ⟨m, hn, hm⟩ := x.ns; ⟨m, hn, fun y v h1 h2 => hm y v (h y v h1) h2⟩
    cell := fun y v h1 h2 => x.cell y v (h y v h1) h2 }

theorem St.store (C : CxOk K c) (x : St c G ad S s) {y : Str} {v : V} {z : Value} {h' : Heap} {m' : Str → Option Value} {t : Nat} {m : Str → Option Value} (hm : s.heap.Ns c.env.locals m ∧ ∀ x v, S.get x = some v → c.env.kindOf x = some .local → ∃ y, m x = some y ∧ IsV G ad v y)
    (hn : h'.Ns c.env.locals m') (hm' : ∀ u, m' u = if u = y then some z else m u) (hs : Heap.SameBut c.env.locals s.heap h') (hv : IsV G ad v z) (hk : c.env.kindOf y = some .local) : St c G ad (S.set y v) { s with heap := h', toks := t } := by
  have ke : ∀ b o, b ≠ c.env.locals → s.heap.get? b = some o → h'.get? b = some o := fun b o hb e => (hs.2 b hb).trans e
  have ne : ∀ b, G b ≠ none → b ≠ c.env.locals := fun b hb q => hb (q ▸ x.offL)
  refine ⟨fun b o hb e => ke b o (C.L.ne e) (x.keep b o hb e), fun b hb => let ⟨o, e⟩ := x.thX b hb; ⟨o, ke b o (fun q => St.notX C C.L (q ▸ hb)) e⟩, x.le, fun b o e => ke b o (ne b (by rw [e]; exact Option.some_ne_none _)) (x.sub b o e), x.fresh, ?_, x.os, x.gens, ⟨m', hn, ?_⟩, ?_, ?_, x.offL, x.offC, ?_, x.offM, x.apart, x.len⟩
  · exact x.tab.at' fun o e => ke _ _ (fun q => St.notX C C.L (q ▸ C.tabX)) e
  · intro u w h1 h2
    rw [State.get_set] at h1
    rw [hm']
    by_cases hu : u = y
    · rw [if_pos hu] at h1 ⊢; cases h1; exact ⟨z, rfl, hv⟩
    · rw [if_neg hu] at h1 ⊢; exact hm.2 u w h1 h2
  · intro u w h1 h2
    rw [State.get_set] at h1
    by_cases hu : u = y
    · subst hu; rw [hk] at h2; rcases h2 with h2 | h2 <;> cases h2
    · rw [if_neg hu] at h1
      obtain ⟨a, q, h3, ⟨o, e, hd⟩, h5⟩ := x.cell u w h1 h2
      refine ⟨a, q, h3, ⟨o, ke a o (fun q => ?_) e, hd⟩, h5⟩
      subst q
      rcases C.addr u _ h3 with h | h
      · exact C.Lcs h
      · obtain ⟨o', e'⟩ := h.1; exact C.L.ne e' rfl
  · intro a ha
    obtain ⟨q, o, e, hd⟩ := x.cex a ha
    exact ⟨q, o, ke a o (fun q => C.Lcs (q ▸ ha)) e, hd⟩
  · intro k mm hk'
    exact (x.mt k mm hk').kept (fun ha a e o => ke a o (x.offM k mm a hk' ha e).2.1) (fun _ _ e => e) fun _ _ e => e

theorem St.storeCell (C : CxOk K c) (x : St c G ad S s) {y : Str} {v : V} {z : Value} {h' : Heap} {a : Addr} (ha : c.env.cells.lookup y = some a) (hc : a ∈ c.cs) (hn : h'.IsCell a (some z)) (hs : Heap.SameBut a s.heap h') (hv : IsV G ad v z)
    (hk : c.env.kindOf y = some .cell) : St c G ad (S.set y v) { s with heap := h' } := by
  have ke : ∀ b o, b ≠ a → s.heap.get? b = some o → h'.get? b = some o := fun b o hb e => (hs.2 b hb).trans e
  have ne : ∀ b, G b ≠ none → b ≠ a := fun b hb q => hb (q ▸ x.offC a hc)
  obtain ⟨m, hm, hm2⟩ := x.ns
  refine ⟨fun b o hb e => ke b o ((C.cs a hc).ne e) (x.keep b o hb e), fun b hb => let ⟨o, e⟩ := x.thX b hb; ⟨o, ke b o (fun q => St.notX C (C.cs a hc) (q ▸ hb)) e⟩, x.le, fun b o e => ke b o (ne b (by rw [e]; exact Option.some_ne_none _)) (x.sub b o e), x.fresh, ?_, x.os, x.gens, ⟨m, hm.sameBut hs (fun q => C.Lcs (q ▸ hc)), ?_⟩, ?_, ?_, x.offL, x.offC, ?_, x.offM, x.apart, x.len⟩
  · exact x.tab.at' fun o e => ke _ _ (fun q => St.notX C (C.cs _ hc) (q ▸ C.tabX)) e
  · intro u w h1 h2
    rw [State.get_set] at h1
    by_cases hu : u = y
    · subst hu; rw [hk] at h2; cases h2
    · rw [if_neg hu] at h1; exact hm2 u w h1 h2
  · intro u w h1 h2
    rw [State.get_set] at h1
    by_cases hu : u = y
    · subst hu; rw [if_pos rfl] at h1; cases h1; exact ⟨a, z, ha, hn, hv⟩
    · rw [if_neg hu] at h1
      obtain ⟨a', q, h3, ⟨o, e, hd⟩, h5⟩ := x.cell u w h1 h2
      exact ⟨a', q, h3, ⟨o, ke a' o (fun q => hu (C.inj u y a (q ▸ h3) ha)) e, hd⟩, h5⟩
  · intro a' ha'
    obtain ⟨q, o, e, hd⟩ := x.cex a' ha'
    by_cases hq : a' = a
    · subst hq; exact ⟨some z, hn⟩
    · exact ⟨q, o, ke a' o hq e, hd⟩
  · intro k mm hk'
    exact (x.mt k mm hk').kept (fun ha b e o => ke b o (fun q => (x.offM k mm b hk' ha e).2.2.1 (q ▸ hc))) (fun _ _ e => e) fun _ _ e => e

/-- a mutable is turned -/
theorem St.turn (C : CxOk K c) (x : St c G ad S s) {k : Nat} {a : Addr} {l l' : List V} {h' : Heap} {t : Nat} {vs' : Array Value} (hk : S.muts[k]? = some (.list l)) (ea : ad[k]? = some a) (hl : h'.PlainList a vs') (hs : Heap.SameBut a s.heap h') (hv : IsVL G ad l' vs'.toList) :
    St c G ad (S.upd k (.list l')) { s with heap := h', toks := t } := by
  obtain ⟨g1, g2, g3, g4⟩ := x.offM k _ a hk trivial ea
  have ke : ∀ b o, b ≠ a → s.heap.get? b = some o → h'.get? b = some o := fun b o hb e => (hs.2 b hb).trans e
  have ne : ∀ b, G b ≠ none → b ≠ a := fun b hb q => hb (q ▸ g1)
  obtain ⟨m, hm, hm2⟩ := x.ns
  have getk : ∀ (j : Nat) mm, (S.upd k (.list l')).muts[j]? = some mm → (j = k ∧ mm = .list l') ∨ (j ≠ k ∧ S.muts[j]? = some mm) := fun j mm e => by
    by_cases hj : j = k
    · subst hj
      have hlt : j < S.muts.length := by
        rcases Nat.lt_or_ge j S.muts.length with q | q
        · exact q
        · rw [List.getElem?_eq_none q] at hk; cases hk
      have : (S.upd j (.list l')).muts[j]? = some (.list l') := by simp [State.upd, hlt]
      rw [this] at e; cases e; exact .inl ⟨rfl, rfl⟩
    · have : (S.upd k (.list l')).muts[j]? = S.muts[j]? := by simp [State.upd, Ne.symm hj]
      rw [this] at e; exact .inr ⟨hj, e⟩
  refine ⟨fun b o hb e => ke b o (g4.ne e) (x.keep b o hb e), fun b hb => let ⟨o, e⟩ := x.thX b hb; ⟨o, ke b o (fun q => St.notX C g4 (q ▸ hb)) e⟩, x.le, fun b o e => ke b o (ne b (by rw [e]; exact Option.some_ne_none _)) (x.sub b o e), x.fresh, ?_, x.os, x.gens, ⟨m, hm.sameBut hs (Ne.symm g2), hm2⟩, ?_, ?_, x.offL, x.offC, ?_, ?_, ?_, ?_⟩
  · exact x.tab.at' fun o e => ke _ _ (fun q => St.notX C g4 (q ▸ C.tabX)) e
  · intro u w h1 h2
    obtain ⟨a', q, h3, ⟨o, e, hd⟩, h5⟩ := x.cell u w h1 h2
    refine ⟨a', q, h3, ⟨o, ke a' o (fun q => ?_) e, hd⟩, h5⟩
    rcases C.addr u _ h3 with h | h
    · exact g3 (q ▸ h)
    · obtain ⟨o', e'⟩ := h.1; exact g4.ne e' q
  · intro a' ha'
    obtain ⟨q, o, e, hd⟩ := x.cex a' ha'
    exact ⟨q, o, ke a' o (fun q => g3 (q ▸ ha')) e, hd⟩
  · intro j mm hj
    rcases getk j mm hj with ⟨rfl, rfl⟩ | ⟨hne, hj'⟩
    · exact ⟨a, vs', ea, hl, hv⟩
    · exact (x.mt j mm hj').kept (fun ha b e o => ke b o (fun q => hne (x.apart j k _ _ a hj' hk ha trivial (q ▸ e) ea))) (fun _ _ e => e) fun _ _ e => e
  · intro j mm b hj ha e
    rcases getk j mm hj with ⟨rfl, rfl⟩ | ⟨hne, hj'⟩
    · rw [ea] at e; cases e; exact ⟨g1, g2, g3, g4⟩
    · exact x.offM j mm b hj' ha e
  · intro i j mi mj b hi hj hai haj e e'
    rcases getk i mi hi with ⟨rfl, rfl⟩ | ⟨hni, hi'⟩ <;> rcases getk j mj hj with ⟨rfl, rfl⟩ | ⟨hnj, hj'⟩
    · rfl
    · exact x.apart _ _ _ _ b hk hj' trivial haj e e'
    · exact x.apart _ _ _ _ b hi' hk hai trivial e e'
    · exact x.apart _ _ _ _ b hi' hj' hai haj e e'
  · simp [State.upd, x.len]

/-- a new mutable -/
theorem St.alloc (C : CxOk K c) (x : St c G ad S s) {l : List V} {vs : List Value} {t : Nat} (hv : IsVL G ad l vs) :
    St c G (ad ++ [s.heap.objs.size]) (S.new (.list l)) { s with heap := s.heap.push { cls := .type "list", data := .seq vs.toArray }, toks := t } := by
  have kk : ∀ b o, s.heap.get? b = some o → (s.heap.push { cls := .type "list", data := .seq vs.toArray }).get? b = some o := fun b o e => Heap.get?_push_of_some _ e
  have more : ∀ (i : Nat) (a : Addr), ad[i]? = some a → (ad ++ [s.heap.objs.size])[i]? = some a := fun i a e => by
    have : i < ad.length := by
      rcases Nat.lt_or_ge i ad.length with q | q
      · exact q
      · rw [List.getElem?_eq_none q] at e; cases e
    rw [List.getElem?_append_left this]; exact e
  have getk : ∀ (j : Nat) mm, (S.new (.list l)).muts[j]? = some mm → (j = S.muts.length ∧ mm = .list l) ∨ (j < S.muts.length ∧ S.muts[j]? = some mm) := fun j mm e => by
    rcases Nat.lt_trichotomy j S.muts.length with h | h | h
    · rw [State.new, List.getElem?_append_left h] at e; exact .inr ⟨h, e⟩
    · subst h; simp [State.new] at e; exact .inl ⟨rfl, e.symm⟩
    · rw [List.getElem?_eq_none (by simp [State.new]; exact h)] at e; cases e
  have geta : ∀ (j : Nat) a, (ad ++ [s.heap.objs.size])[j]? = some a → (j = S.muts.length ∧ a = s.heap.objs.size) ∨ (j < S.muts.length ∧ ad[j]? = some a) := fun j a e => by
    rcases Nat.lt_trichotomy j ad.length with h | h | h
    · rw [List.getElem?_append_left h] at e; exact .inr ⟨x.len ▸ h, e⟩
    · subst h; simp at e; exact .inl ⟨x.len, e.symm⟩
    · rw [List.getElem?_eq_none (by simp; exact h)] at e; cases e
  obtain ⟨m, hm, hm2⟩ := x.ns
  have gn : G s.heap.objs.size = none := by
    cases q : G s.heap.objs.size with
    | none => rfl
    | some o => exact absurd (Heap.lt_size (x.sub _ _ q)) (Nat.lt_irrefl _)
  refine ⟨fun b o hb e => kk b o (x.keep b o hb e), fun b hb => let ⟨o, e⟩ := x.thX b hb; ⟨o, kk b o e⟩, x.le, fun b o e => kk b o (x.sub b o e), x.fresh, x.tab.keeps kk, x.os, x.gens, ⟨m, hm.push _, fun u w h1 h2 => ?_⟩, ?_, ?_, x.offL, x.offC, ?_, ?_, ?_, ?_⟩
  · obtain ⟨y, e, h⟩ := hm2 u w h1 h2; exact ⟨y, e, h.more more⟩
  · intro u w h1 h2
    obtain ⟨a', q, h3, ⟨o, e, hd⟩, h5⟩ := x.cell u w h1 h2
    exact ⟨a', q, h3, ⟨o, kk _ _ e, hd⟩, h5.more more⟩
  · intro a' ha'
    obtain ⟨q, o, e, hd⟩ := x.cex a' ha'
    exact ⟨q, o, kk _ _ e, hd⟩
  · intro j mm hj
    rcases getk j mm hj with ⟨rfl, rfl⟩ | ⟨hlt, hj'⟩
    · refine ⟨s.heap.objs.size, vs.toArray, ?_, ⟨0, Heap.get?_push_size _ rfl⟩, by simpa using hv.more more⟩
      rw [← x.len]; simp
    · exact (x.mt j mm hj').kept (fun _ a _ o e => kk a o e) (fun _ _ e => e) more
  · intro j mm a hj ha e
    rcases geta j a e with ⟨rfl, rfl⟩ | ⟨hlt, e'⟩
    · refine ⟨gn, ?_, ?_, x.new (new_size _)⟩
      · exact Nat.ne_of_gt hm.lt
      · intro q
        obtain ⟨y, o, e, _⟩ := x.cex _ q
        exact absurd (Heap.lt_size e) (Nat.lt_irrefl _)
    · rcases getk j mm hj with ⟨rfl, _⟩ | ⟨_, hj'⟩
      · exact absurd hlt (Nat.lt_irrefl _)
      · exact x.offM j mm a hj' ha e'
  · intro i j mi mj b hi hj hai haj e e'
    rcases geta i b e with ⟨rfl, rfl⟩ | ⟨hi1, hi2⟩ <;> rcases geta j _ e' with ⟨rfl, hb⟩ | ⟨hj1, hj2⟩
    · rfl
    · rcases getk j mj hj with ⟨rfl, _⟩ | ⟨_, hj'⟩
      · exact absurd hj1 (Nat.lt_irrefl _)
      · obtain ⟨o, e⟩ := (x.mt j mj hj').there haj hj2; exact absurd (Heap.lt_size e) (Nat.lt_irrefl _)
    · rcases getk i mi hi with ⟨rfl, _⟩ | ⟨_, hi'⟩
      · exact absurd hi1 (Nat.lt_irrefl _)
      · obtain ⟨o, e⟩ := (x.mt i mi hi').there hai hi2; exact absurd (Heap.lt_size e) (by rw [hb]; exact Nat.lt_irrefl _)
    · rcases getk i mi hi with ⟨rfl, _⟩ | ⟨_, hi'⟩
      · exact absurd hi1 (Nat.lt_irrefl _)
      · rcases getk j mj hj with ⟨rfl, _⟩ | ⟨_, hj'⟩
        · exact absurd hj1 (Nat.lt_irrefl _)
        · exact x.apart _ _ _ _ b hi' hj' hai haj hi2 hj2
  · simp [State.new, x.len]
end
end Mine
end

-- the text M3
section
open PySem PySem.Calls PySem.W PyProof.Rows
set_option maxRecDepth 100000
namespace Mine

noncomputable def V.fz (k : Nat) (ds : List D) : V → V
  | .d x => .d x
  | .mu j => if j = k then .d (.list ds) else .mu j
  | .bm j => .bm j
noncomputable def Mut.fz (k : Nat) (ds : List D) : Mut → Mut
  | .dead => .dead
  | .list l => .list (l.map (V.fz k ds))
noncomputable def fzVars (k : Nat) (ds : List D) (l : List (Str × V)) : List (Str × V) := l.map fun p => (p.1, p.2.fz k ds)
noncomputable def State.freeze (S : State) (k : Nat) (ds : List D) : State := ⟨fzVars k ds S.vars, (S.muts.map (Mut.fz k ds)).set k .dead⟩
theorem fzVars_lookup (k : Nat) (ds : List D) (y : Str) : ∀ l : List (Str × V), (fzVars k ds l).lookup y = (l.lookup y).map (V.fz k ds)
  | [] => rfl
  | (z, w) :: r => by
    show List.lookup y ((z, w.fz k ds) :: fzVars k ds r) = _
    rw [List.lookup_cons, List.lookup_cons]
    cases y == z with
    | true => rfl
    | false => exact fzVars_lookup k ds y r

/-- what an activation may turn -/
noncomputable def Own (c : Cx) (ad : List Addr) (S : State) (b : Addr) : Prop := b = c.env.locals ∨ b ∈ c.cs ∨ b = tabA ∨ ∃ (k : Nat) (m : Mut), S.muts[k]? = some m ∧ m.alive ∧ ad[k]? = some b
/-- a step of an activation: what it does not own, and what is not in wr, stays -/
structure Stp (wr : List Addr) (c : Cx) (G : PH) (ad : List Addr) (S : State) (s : Shared) (G' : PH) (ad' : List Addr) (S' : State) (s' : Shared) : Prop where
  kept : ∀ b o, s.heap.get? b = some o → ¬ Own c ad S b → b ∉ wr → s'.heap.get? b = some o
  own : ∀ b, Own c ad' S' b → Own c ad S b ∨ b ∈ wr ∨ New s.heap b
  le : PLe G G'
  fr : ∀ b o, G' b = some o → G b = some o ∨ Own c ad S b ∨ b ∈ wr ∨ New s.heap b
abbrev Step (c : Cx) (G : PH) (ad : List Addr) (S : State) (s : Shared) (G' : PH) (ad' : List Addr) (S' : State) (s' : Shared) : Prop := Stp [] c G ad S s G' ad' S' s'
theorem Step.refl (c : Cx) (G : PH) (ad : List Addr) (S : State) (s : Shared) : Step c G ad S s G ad S s := ⟨fun _ _ e _ _ => e, fun _ h => .inl h, fun _ _ e => e, fun _ _ e => .inl e⟩
theorem Stp.refl (wr : List Addr) (c : Cx) (G : PH) (ad : List Addr) (S : State) (s : Shared) : Stp wr c G ad S s G ad S s := ⟨fun _ _ e _ _ => e, fun _ h => .inl h, fun _ _ e => e, fun _ _ e => .inl e⟩
theorem Stp.mono {wr wr' : List Addr} {c : Cx} {G G' : PH} {ad ad' : List Addr} {S S' : State} {s s' : Shared} (x : Stp wr c G ad S s G' ad' S' s') (h : ∀ b ∈ wr, b ∈ wr' ∨ New s.heap b) : Stp wr' c G ad S s G' ad' S' s' :=
  ⟨fun b o e h1 h2 => x.kept b o e h1 fun q => (h b q).elim h2 fun z => z.ne e rfl, fun b q => (x.own b q).elim .inl fun q => q.elim (fun q => .inr (h b q)) fun q => .inr (.inr q), x.le,
    fun b o e => (x.fr b o e).elim .inl fun q => q.elim (fun q => .inr (.inl q)) fun q => q.elim (fun q => (h b q).elim (fun q => .inr (.inr (.inl q))) fun q => .inr (.inr (.inr q))) fun q => .inr (.inr (.inr q))⟩
theorem Stp.trans {wr : List Addr} {c : Cx} {G G' G'' : PH} {ad ad' ad'' : List Addr} {S S' S'' : State} {s s' s'' : Shared} (x : Stp wr c G ad S s G' ad' S' s') (y : Stp wr c G' ad' S' s' G'' ad'' S'' s'') : Stp wr c G ad S s G'' ad'' S'' s'' := by
  have nn : ∀ b, New s'.heap b → Own c ad S b ∨ b ∈ wr ∨ New s.heap b := fun b z => by
    by_cases h1 : Own c ad S b
    · exact .inl h1
    · by_cases h2 : b ∈ wr
      · exact .inr (.inl h2)
      · right; right
        unfold New
        cases q : s.heap.get? b with
        | none => rfl
        | some o => exact absurd rfl (z.ne (x.kept b o q h1 h2))
  have oo : ∀ b, Own c ad' S' b ∨ b ∈ wr ∨ New s'.heap b → Own c ad S b ∨ b ∈ wr ∨ New s.heap b := fun b q => q.elim (x.own b) fun q => q.elim (fun q => .inr (.inl q)) (nn b)
  refine ⟨fun b o e h1 h2 => y.kept b o (x.kept b o e h1 h2) (fun q => (x.own b q).elim h1 fun q => q.elim h2 fun z => z.ne e rfl) h2, fun b h => oo b (y.own b h), fun b o e => y.le b o (x.le b o e), fun b o e => ?_⟩
  rcases y.fr b o e with q | q
  · exact x.fr b o q
  · exact .inr (oo b q)
theorem Step.trans {c : Cx} {G G' G'' : PH} {ad ad' ad'' : List Addr} {S S' S'' : State} {s s' s'' : Shared} (x : Step c G ad S s G' ad' S' s') (y : Step c G' ad' S' s' G'' ad'' S'' s'') : Step c G ad S s G'' ad'' S'' s'' := Stp.trans x y
theorem Grow.step {c : Cx} {G G' : PH} {ad : List Addr} {S : State} {s s' : Shared} (g : Grow [tabA] G s G' s') : Step c G ad S s G' ad S s' :=
  ⟨fun b o e h _ => g.keep b o (fun q => h (.inr (.inr (.inl (List.mem_singleton.mp q))))) e, fun _ h => .inl h, g.le, fun b o e => (g.fresh b o e).elim .inl fun q => .inr (.inr (.inr q))⟩
theorem step_same {c : Cx} {G : PH} {ad : List Addr} {S S' : State} {s : Shared} {h' : Heap} {t : Nat} {a : Addr} (hs : Heap.SameBut a s.heap h') (ha : Own c ad S a) (ho : ∀ b, Own c ad S' b → Own c ad S b) : Step c G ad S s G ad S' { s with heap := h', toks := t } :=
  ⟨fun b o e h _ => (hs.2 b (fun q => h (q ▸ ha))).trans e, fun b h => .inl (ho b h), fun _ _ e => e, fun _ _ e => .inl e⟩

theorem IsVL.map {G G' : PH} {ad : List Addr} {f : V → V} {l : List V} {vs : List Value} (h : IsVL G ad l vs) (k : ∀ v y, IsV G ad v y → IsV G' ad (f v) y) : IsVL G' ad (l.map f) vs := by
  induction h with
  | nil => exact .nil
  | cons h1 _ ih => exact .cons (k _ _ h1) ih
theorem isL_of_isVL {G : PH} {ad : List Addr} : ∀ {ds : List D} {vs : List Value}, IsVL G ad (ds.map V.d) vs → IsL G ds vs
  | [], _, h => by cases h; exact .nil
  | _ :: _, _, h => by cases h with | cons h1 h2 => exact .cons h1 (isL_of_isVL h2)
theorem isVL_of_isL {G : PH} {ad : List Addr} {ds : List D} {vs : List Value} (h : IsL G ds vs) : IsVL G ad (ds.map V.d) vs := by
  induction ds generalizing vs with
  | nil => obtain rfl := IsL.inv h; exact .nil
  | cons d ds ih => obtain ⟨_, _, rfl, h1, h2⟩ := IsL.inv h; exact .cons h1 (ih h2)

section
variable {K : Frag} {c : Cx} {G G' : PH} {ad : List Addr} {S : State} {s s' : Shared}

set_option tactic.hygienic true in
theorem St.freeze (x : St c G ad S s) {k : Nat} {ds : List D} (hk : S.muts[k]? = some (.list (ds.map V.d))) : ∃ G', St c G' ad (S.freeze k ds) s ∧ Step c G ad S s G' ad (S.freeze k ds) s := by
  obtain ⟨a, vs, ea, ⟨n, ho'⟩, hv⟩ := x.mt k _ hk
  obtain ⟨o, ho, hc, hd⟩ : ∃ o, s.heap.get? a = some o ∧ o.cls = .type "list" ∧ o.data = .seq vs n := ⟨_, ho', rfl, rfl⟩
  obtain ⟨g1, g2, g3, g4⟩ := x.offM k _ a hk trivial ea
  have le : PLe G (G.put a o) := fun b o' e => by
    unfold PH.put
    by_cases hb : b = a
    · subst hb; rw [g1] at e; cases e
    · rw [if_neg hb]; exact e
  have isa : Is (G.put a o) (.list ds) (.ref a) := .list (PH.put_self G a o) hc hd ((isL_of_isVL hv).mono le)
  have fz : ∀ (v : V) (y : Value), IsV G ad v y → IsV (G.put a o) ad (v.fz k ds) y := fun v y h => by
    cases v with
    | d z => exact Is.mono le h
    | bm j => exact IsV.mono (x := .bm j) le h
    | mu j =>
      obtain ⟨b, eb, rfl⟩ := h
      by_cases hj : j = k
      · subst hj; rw [ea] at eb; cases eb
        show IsV (G.put a o) ad (V.fz j ds (.mu j)) (.ref a)
        simp only [V.fz, if_true]; exact isa
      · show IsV (G.put a o) ad (V.fz k ds (.mu j)) (.ref b)
        simp only [V.fz, if_neg hj]; exact ⟨b, eb, rfl⟩
  have off : ∀ b, b ≠ a → G b = none → (G.put a o) b = none := fun b hb e => by unfold PH.put; rw [if_neg hb]; exact e
  have get : ∀ y v, (S.freeze k ds).get y = some v → ∃ v', S.get y = some v' ∧ v = v'.fz k ds := fun y v e => by
    have e' : ((S.vars.lookup y).map (V.fz k ds)) = some v := (fzVars_lookup k ds y S.vars).symm.trans e
    cases q : S.vars.lookup y with
    | none => rw [q] at e'; cases e'
    | some v' => rw [q] at e'; cases e'; exact ⟨v', q, rfl⟩
  have getk : ∀ (j : Nat) mm, (S.freeze k ds).muts[j]? = some mm → mm = .dead ∨ (j ≠ k ∧ ∃ m', S.muts[j]? = some m' ∧ mm = m'.fz k ds) := fun j mm e => by
    by_cases hj : j = k
    · subst hj
      have hlt : j < S.muts.length := by
        rcases Nat.lt_or_ge j S.muts.length with q | q
        · exact q
        · rw [List.getElem?_eq_none q] at hk; cases hk
      have : (S.freeze j ds).muts[j]? = some .dead := by simp [State.freeze, hlt]
      rw [this] at e; cases e; exact .inl rfl
    · have : (S.freeze k ds).muts[j]? = (S.muts[j]?).map (Mut.fz k ds) := by simp [State.freeze, Ne.symm hj]
      rw [this] at e
      cases q : S.muts[j]? with
      | none => rw [q] at e; cases e
      | some m' => rw [q] at e; cases e; exact .inr ⟨hj, m', rfl, rfl⟩
  have alive : ∀ m : Mut, (m.fz k ds).alive → m.alive := fun m h => by cases m <;> first | exact h | trivial
  obtain ⟨m, hm, hm2⟩ := x.ns
  have own : ∀ b, Own c ad (S.freeze k ds) b → Own c ad S b := fun b h => by
    rcases h with h | h | h | ⟨j, mm, h1, h2, h3⟩
    · exact .inl h
    · exact .inr (.inl h)
    · exact .inr (.inr (.inl h))
    · rcases getk j mm h1 with rfl | ⟨_, m', h4, rfl⟩
      · exact h2.elim
      · exact .inr (.inr (.inr ⟨j, m', h4, alive _ h2, h3⟩))
  refine ⟨G.put a o, ⟨x.keep, x.thX, fun b o' e => le b o' (x.le b o' e), fun b o' e => ?_, fun b o' e => ?_, x.tab.mono le, x.os, x.gens, ⟨m, hm, fun u w h1 h2 => ?_⟩, fun u w h1 h2 => ?_, x.cex, off _ (Ne.symm g2) x.offL, fun b hb => off b (fun q => g3 (q ▸ hb)) (x.offC b hb), ?_, ?_, ?_, ?_⟩, ⟨fun _ _ e _ _ => e, fun b h => .inl (own b h), le, fun b o' e => ?_⟩⟩
  · unfold PH.put at e
    split at e
    · rename_i hb; subst hb; cases e; exact ho
    · exact x.sub b o' e
  · unfold PH.put at e
    split at e
    · rename_i hb; subst hb; exact .inr g4
    · exact x.fresh b o' e
  · obtain ⟨v', h3, rfl⟩ := get u w h1
    obtain ⟨y, h4, h5⟩ := hm2 u v' h3 h2
    exact ⟨y, h4, fz _ _ h5⟩
  · obtain ⟨v', h3, rfl⟩ := get u w h1
    obtain ⟨b, y, h4, h5, h6⟩ := x.cell u v' h3 h2
    exact ⟨b, y, h4, h5, fz _ _ h6⟩
  · intro j mm hj
    rcases getk j mm hj with rfl | ⟨hne, m', h1, rfl⟩
    · trivial
    · have := x.mt j m' h1
      cases m' with
      | dead => trivial
      | list l' =>
        obtain ⟨b, ws, eb, hl, hw⟩ := this
        refine ⟨b, ws, eb, hl, ?_⟩
        show IsVL (G.put a o) ad (l'.map (V.fz k ds)) ws.toList
        exact hw.map fz
  · intro j mm b hj ha e
    rcases getk j mm hj with rfl | ⟨hne, m', h1, rfl⟩
    · exact ha.elim
    · obtain ⟨q1, q2, q3, q4⟩ := x.offM j m' b h1 (alive _ ha) e
      exact ⟨off b (fun q => hne (x.apart j k _ _ a h1 hk (alive _ ha) trivial (q ▸ e) ea)) q1, q2, q3, q4⟩
  · intro i j mi mj b hi hj hai haj e e'
    rcases getk i mi hi with rfl | ⟨_, m', h1, rfl⟩
    · exact hai.elim
    · rcases getk j mj hj with rfl | ⟨_, m'', h2, rfl⟩
      · exact haj.elim
      · exact x.apart i j _ _ b h1 h2 (alive _ hai) (alive _ haj) e e'
  · simp [State.freeze, x.len]
  · unfold PH.put at e
    split at e
    · rename_i hb; subst hb; exact .inr (.inl (.inr (.inr (.inr ⟨k, _, hk, trivial, ea⟩))))
    · exact .inl e
end

/-- an expression gives v, and turns nothing that is told -/
noncomputable def Evals (prog : Program) (w : World) (K : Frag) (n : Nat) (sx : Sx) (S : State) (e : Expr) (v : V) : Prop :=
  ∀ (A : Around) (c : Cx) (G : PH) (ad : List Addr) (s : Shared), Room A n → CxOk K c → c.sx = sx → St c G ad S s →
    wpAny (model prog w) A (eval e c.env) (fun y s' => ∃ G', Grow [tabA] G s G' s' ∧ IsV G' ad v y) Nope s
/-- a test -/
noncomputable def Tests (prog : Program) (w : World) (K : Frag) (n : Nat) (sx : Sx) (S : State) (e : Expr) (b : Bool) : Prop :=
  ∀ (A : Around) (c : Cx) (G : PH) (ad : List Addr) (s : Shared), Room A n → CxOk K c → c.sx = sx → St c G ad S s →
    wpAny (model prog w) A (isTrue e c.env (eval e c.env)) (fun y s' => ∃ G', Grow [tabA] G s G' s' ∧ y = b) Nope s

section
variable {prog : Program} {w : World} {K : Frag} {n : Nat} {sx : Sx} {S : State}

theorem St.step {c : Cx} {G G' : PH} {ad : List Addr} {s s' : Shared} (C : CxOk K c) (x : St c G ad S s) (g : Grow [tabA] G s G' s') : St c G' ad S s' := x.grow C g fun b h => by rw [List.mem_singleton.mp h]; exact C.tabX

theorem ev_local {x : Str} {pos : Pos} {v : V} (hv : S.get x = some v) (hk : sx.scope.names.lookup x = some .local) (hd : (x == ("__debug__" : Str)) = false := by decide) : Evals prog w K n sx S (.Name x pos) v := by
  intro A c G ad s R C hsc st
  subst hsc
  obtain ⟨m, hm, hm2⟩ := st.ns
  obtain ⟨y, h1, h2⟩ := hm2 x v hv hk
  exact wpAny_Name (wpAny_loadName_local C.kind hk hm h1 ⟨G, .refl st.sub, h2⟩) hd
theorem ev_cell {x : Str} {pos : Pos} {v : V} (hv : S.get x = some v) (hk : sx.scope.names.lookup x = some .cell) (hd : (x == ("__debug__" : Str)) = false := by decide) : Evals prog w K n sx S (.Name x pos) v := by
  intro A c G ad s R C hsc st
  subst hsc
  obtain ⟨a, y, h1, h2, h3⟩ := st.cell x v hv (.inl hk)
  exact wpAny_Name (wpAny_loadName_cell C.kind hk h1 h2 ⟨G, .refl st.sub, h3⟩) hd
theorem ev_global {x : Str} {pos : Pos} {v : Value} (hv : nsIn K mainGlobals x = some (some v)) (hk : sx.scope.names.lookup x = some .globalImplicit) (hd : (x == ("__debug__" : Str)) = false := by decide) : Evals prog w K n sx S (.Name x pos) (.d (.raw v)) := by
  intro A c G ad s R C hsc st
  subst hsc
  have T := st.top C
  obtain ⟨mg, hg⟩ := T.glob
  exact Name_function_global C.kind hk (loadGlobal_global (C.glob ▸ hg) (mg_of T.obj hg hv) ⟨G, .refl st.sub, .raw v⟩) hd
theorem ev_builtin {x : Str} {pos : Pos} {v : Value} (hv : nsIn K mainGlobals x = some none) (hb : bootBuiltins x = some v) (hm : x ∈ (["len", "chr", "range", "enumerate", "iter", "next", "zip", "isinstance", "str", "list"] : List Str)) (hk : sx.scope.names.lookup x = some .globalImplicit) (hd : (x == ("__debug__" : Str)) = false := by decide) : Evals prog w K n sx S (.Name x pos) (.d (.raw v)) := by
  intro A c G ad s R C hsc st
  subst hsc
  have T := st.top C
  obtain ⟨mg, hg⟩ := T.glob
  obtain ⟨mb, hbn, hbm⟩ := T.blt
  exact Name_function_global C.kind hk (loadGlobal_builtin (C.glob ▸ hg) (mg_none_of T.obj hg hv) (C.blt ▸ hbn) ((hbm x hm).trans hb) ⟨G, .refl st.sub, .raw v⟩) hd

theorem ev_int {i : Int} {k : Nat} {pos : Pos} : Evals prog w K n sx S (.Constant (.int i) k pos) (.d (.int i)) := by
  intro A c G ad s R C hsc st
  exact wpAny_Constant_int ⟨G, (Same.toks s _).grow st.sub, .int i _⟩
theorem ev_str {i : Str} {k : Nat} {pos : Pos} : Evals prog w K n sx S (.Constant (.str i) k pos) (.d (.str i)) := by
  intro A c G ad s R C hsc st
  exact Constant_str ⟨G, (Same.toks s _).grow st.sub, .str i _⟩
theorem ev_bool {b : Bool} {k : Nat} {pos : Pos} : Evals prog w K n sx S (.Constant (.bool b) k pos) (.d (.bool b)) := by
  intro A c G ad s R C hsc st
  exact Constant_bool ⟨G, .refl st.sub, .bool b⟩
theorem ev_none {k : Nat} {pos : Pos} : Evals prog w K n sx S (.Constant .none k pos) (.d .none) := by
  intro A c G ad s R C hsc st
  exact Constant_none ⟨G, .refl st.sub, .none⟩

/-- an operation on two values -/
noncomputable def Op2 (prog : Program) (w : World) (n : Nat) (f : Value → Value → Sem Value) (a b d : D) : Prop :=
  ∀ (A : Around) (X : List Addr) (G : PH) (s : Shared) (x y : Value), Room A n → PSub G s.heap → Is G a x → Is G b y → Gives (model prog w) X A (f x y) G s d

theorem ev_binop {l r : Expr} {op : Operator} {pos : Pos} {a b d : D} (h1 : Evals prog w K n sx S l (.d a)) (h2 : Evals prog w K n sx S r (.d b)) (h : Op2 prog w n (binaryOp op) a b d) :
    Evals prog w K n sx S (.BinOp l op r pos) (.d d) := by
  intro A c G ad s R C hsc st
  refine wpAny_BinOp (wpg (h1 A c G ad s R C hsc st) fun x s₁ G₁ g₁ e₁ => ?_)
  refine wpg (h2 A c G₁ ad s₁ R C hsc (st.step C g₁)) fun y s₂ G₂ g₂ e₂ => ?_
  refine wpg (h A [tabA] G₂ s₂ x y R g₂.sub (Is.mono g₂.le e₁) e₂) fun z s₃ G₃ g₃ e₃ => ⟨G₃, (g₁.trans g₂).trans g₃, e₃⟩

theorem ev_cmp {l r : Expr} {op : CmpOp} {pos : Pos} {a b d : D} (h1 : Evals prog w K n sx S l (.d a)) (h2 : Evals prog w K n sx S r (.d b)) (h : Op2 prog w n (compareOp op) a b d)
    (hm : behindInMarks op r = false := by with_unfolding_all rfl) : Evals prog w K n sx S (.Compare l [op] [r] pos) (.d d) := by
  intro A c G ad s R C hsc st
  refine wpAny_Compare1 (wpg (h1 A c G ad s R C hsc st) fun x s₁ G₁ g₁ e₁ => ?_) hm
  refine wpg (h2 A c G₁ ad s₁ R C hsc (st.step C g₁)) fun y s₂ G₂ g₂ e₂ => ?_
  refine wpg (h A [tabA] G₂ s₂ x y R g₂.sub (Is.mono g₂.le e₁) e₂) fun z s₃ G₃ g₃ e₃ => ⟨G₃, (g₁.trans g₂).trans g₃, e₃⟩

theorem op_add_int {a b : Int} : Op2 prog w n (binaryOp .Add) (.int a) (.int b) (.int (a + b)) := by
  intro A X G s x y R sub hx hy
  obtain ⟨_, rfl⟩ := Is.inv hx; obtain ⟨_, rfl⟩ := Is.inv hy
  exact add_int ⟨G, (Same.toks s _).grow sub, .int _ _⟩
theorem op_mod_int {a b : Int} (hb : b ≠ 0) : Op2 prog w n (binaryOp .Mod) (.int a) (.int b) (.int (a.fmod b)) := by
  intro A X G s x y R sub hx hy
  obtain ⟨_, rfl⟩ := Is.inv hx; obtain ⟨_, rfl⟩ := Is.inv hy
  exact mod_int hb ⟨G, (Same.toks s _).grow sub, .int _ _⟩
theorem op_and_int {a b : Int} : Op2 prog w n (binaryOp .BitAnd) (.int a) (.int b) (.int (Builtin.bitAnd a b)) := by
  intro A X G s x y R sub hx hy
  obtain ⟨_, rfl⟩ := Is.inv hx; obtain ⟨_, rfl⟩ := Is.inv hy
  exact and_int ⟨G, (Same.toks s _).grow sub, .int _ _⟩
theorem op_mul_int {a b : Int} (hm : IntMulOk a b) : Op2 prog w n (binaryOp .Mult) (.int a) (.int b) (.int (a * b)) := by
  intro A X G s x y R sub hx hy
  obtain ⟨_, rfl⟩ := Is.inv hx; obtain ⟨_, rfl⟩ := Is.inv hy
  exact mul_int ⟨G, (Same.toks s _).grow sub, .int _ _⟩ hm
theorem op_add_str {a b : Str} (h : a.length + b.length ≤ sizeLine) : Op2 prog w n (binaryOp .Add) (.str a) (.str b) (.str (a ++ b)) := by
  intro A X G s x y R sub hx hy
  obtain ⟨_, rfl⟩ := Is.inv hx; obtain ⟨_, rfl⟩ := Is.inv hy
  exact add_str (fun t' tk => ⟨G, (Same.toks s _).grow sub, .str _ _⟩) h
theorem op_eq_int {a b : Int} : Op2 prog w n (compareOp .Eq) (.int a) (.int b) (.bool (a == b)) := by
  intro A X G s x y R sub hx hy
  obtain ⟨_, rfl⟩ := Is.inv hx; obtain ⟨_, rfl⟩ := Is.inv hy
  exact eq_int ⟨G, .refl sub, .bool _⟩
theorem op_eq_str {a b : Str} : Op2 prog w n (compareOp .Eq) (.str a) (.str b) (.bool (a == b)) := by
  intro A X G s x y R sub hx hy
  obtain ⟨_, rfl⟩ := Is.inv hx; obtain ⟨_, rfl⟩ := Is.inv hy
  exact eq_str ⟨G, .refl sub, .bool _⟩
end
end Mine
end

-- the text M4
section
open PySem PySem.Calls PySem.W PyProof.Rows
set_option maxRecDepth 100000
namespace Mine

inductive Fl where
  | next | brk | cont | ret (d : D)

noncomputable def Post (c : Cx) (G : PH) (ad : List Addr) (S : State) (s : Shared) (Q : Fl → State → Prop) (f : Flow) (s' : Shared) : Prop :=
  match f with
  | .next => ∃ G' ad' S', St c G' ad' S' s' ∧ Step c G ad S s G' ad' S' s' ∧ Q .next S'
  | .brk => ∃ G' ad' S', St c G' ad' S' s' ∧ Step c G ad S s G' ad' S' s' ∧ Q .brk S'
  | .cont => ∃ G' ad' S', St c G' ad' S' s' ∧ Step c G ad S s G' ad' S' s' ∧ Q .cont S'
  | .ret v => ∃ G' ad' S' d, St c G' ad' S' s' ∧ Step c G ad S s G' ad' S' s' ∧ Is G' d v ∧ Q (.ret d) S'

theorem Post.mono {c : Cx} {G : PH} {ad : List Addr} {S : State} {s : Shared} {Q Q' : Fl → State → Prop} {f : Flow} {s' : Shared} (h : Post c G ad S s Q f s') (k : ∀ f S', Q f S' → Q' f S') : Post c G ad S s Q' f s' := by
  cases f with
  | next => obtain ⟨G', ad', S', x, y, q⟩ := h; exact ⟨G', ad', S', x, y, k _ _ q⟩
  | brk => obtain ⟨G', ad', S', x, y, q⟩ := h; exact ⟨G', ad', S', x, y, k _ _ q⟩
  | cont => obtain ⟨G', ad', S', x, y, q⟩ := h; exact ⟨G', ad', S', x, y, k _ _ q⟩
  | ret v => obtain ⟨G', ad', S', d, x, y, z, q⟩ := h; exact ⟨G', ad', S', d, x, y, z, k _ _ q⟩
theorem Post.step {c : Cx} {G G₁ : PH} {ad ad₁ : List Addr} {S S₁ : State} {s s₁ : Shared} {Q : Fl → State → Prop} {f : Flow} {s' : Shared} (t : Step c G ad S s G₁ ad₁ S₁ s₁) (h : Post c G₁ ad₁ S₁ s₁ Q f s') : Post c G ad S s Q f s' := by
  cases f with
  | next => obtain ⟨G', ad', S', x, y, q⟩ := h; exact ⟨G', ad', S', x, t.trans y, q⟩
  | brk => obtain ⟨G', ad', S', x, y, q⟩ := h; exact ⟨G', ad', S', x, t.trans y, q⟩
  | cont => obtain ⟨G', ad', S', x, y, q⟩ := h; exact ⟨G', ad', S', x, t.trans y, q⟩
  | ret v => obtain ⟨G', ad', S', d, x, y, z, q⟩ := h; exact ⟨G', ad', S', d, x, t.trans y, z, q⟩

noncomputable def Runs (prog : Program) (w : World) (K : Frag) (n : Nat) (sx : Sx) (S : State) (sts : List Stmt) (Q : Fl → State → Prop) : Prop :=
  ∀ (A : Around) (c : Cx) (G : PH) (ad : List Addr) (s : Shared), Room A n → CxOk K c → c.sx = sx → St c G ad S s →
    wpAny (model prog w) A (execs sts c.env) (Post c G ad S s Q) Nope s
noncomputable def Thn (prog : Program) (w : World) (K : Frag) (n : Nat) (sx : Sx) (rest : List Stmt) (Q : Fl → State → Prop) (f : Fl) (S' : State) : Prop :=
  match f with
  | .next => Runs prog w K n sx S' rest Q
  | f => Q f S'
noncomputable def Run1 (prog : Program) (w : World) (K : Frag) (n : Nat) (sx : Sx) (S : State) (st : Stmt) (Q : Fl → State → Prop) : Prop :=
  ∀ (A : Around) (c : Cx) (G : PH) (ad : List Addr) (s : Shared), Room A n → CxOk K c → c.sx = sx → St c G ad S s →
    wpAny (model prog w) A (exec st c.env) (Post c G ad S s Q) Nope s

section
variable {prog : Program} {w : World} {K : Frag} {n : Nat} {sx : Sx} {S : State} {Q : Fl → State → Prop}

theorem runs_nil (h : Q .next S) : Runs prog w K n sx S [] Q := by
  intro A c G ad s R C hsc st
  exact wpAny_execs_nil ⟨G, ad, S, st, .refl .., h⟩

theorem runs_cons {st : Stmt} {rest : List Stmt} (h : Run1 prog w K n sx S st (Thn prog w K n sx rest Q)) : Runs prog w K n sx S (st :: rest) Q := by
  intro A c G ad s R C hsc x
  refine wpAny_execs_cons (wpAny_mono (h A c G ad s R C hsc x) (fun f s' p => ?_) fun _ _ f => f)
  cases f with
  | next =>
    obtain ⟨G', ad', S', y, t, q⟩ := p
    exact wpAny_mono (q A c G' ad' s' R C hsc y) (fun _ _ p => p.step t) fun _ _ f => f
  | brk => exact p
  | cont => exact p
  | ret v => exact p

theorem run1_mono {st : Stmt} {Q Q' : Fl → State → Prop} (h : Run1 prog w K n sx S st Q) (k : ∀ f S', Q f S' → Q' f S') : Run1 prog w K n sx S st Q' := by
  intro A c G ad s R C hsc x
  exact wpAny_mono (h A c G ad s R C hsc x) (fun _ _ p => p.mono k) fun _ _ f => f
theorem runs_mono {sts : List Stmt} {Q Q' : Fl → State → Prop} (h : Runs prog w K n sx S sts Q) (k : ∀ f S', Q f S' → Q' f S') : Runs prog w K n sx S sts Q' := by
  intro A c G ad s R C hsc x
  exact wpAny_mono (h A c G ad s R C hsc x) (fun _ _ p => p.mono k) fun _ _ f => f

theorem Own.vars {c : Cx} {ad : List Addr} {S S' : State} (h : S'.muts = S.muts) {b : Addr} (x : Own c ad S' b) : Own c ad S b := by
  rcases x with h1 | h1 | h1 | ⟨k, m, h1, h2, h3⟩
  · exact .inl h1
  · exact .inr (.inl h1)
  · exact .inr (.inr (.inl h1))
  · exact .inr (.inr (.inr ⟨k, m, h ▸ h1, h2, h3⟩))

theorem runs_weaken {sts : List Stmt} {S' : State} (hm : S'.muts = S.muts) (h : ∀ y v, S'.get y = some v → S.get y = some v) (k : Runs prog w K n sx S' sts Q) : Runs prog w K n sx S sts Q := by
  intro A c G ad s R C hsc x
  have e : S' = { S with vars := S'.vars } := by cases S'; cases S; simp_all
  have y : St c G ad S' s := by rw [e]; exact x.weaken h
  exact wpAny_mono (k A c G ad s R C hsc y) (fun _ _ p => p.step ⟨fun _ _ e _ _ => e, fun b q => .inl (q.vars hm), fun _ _ e => e, fun _ _ e => .inl e⟩) fun _ _ f => f

theorem runs_freeze {sts : List Stmt} {k : Nat} {ds : List D} (hk : S.muts[k]? = some (.list (ds.map V.d))) (h : Runs prog w K n sx (S.freeze k ds) sts Q) : Runs prog w K n sx S sts Q := by
  intro A c G ad s R C hsc x
  obtain ⟨G', y, t⟩ := x.freeze hk
  exact wpAny_mono (h A c G' ad s R C hsc y) (fun _ _ p => p.step t) fun _ _ f => f

/-- a name is stored -/
theorem storeLocal {A : Around} {c : Cx} {G : PH} {ad : List Addr} {s : Shared} {x : Str} {v : V} {z : Value} {P : Unit → Shared → Prop} (C : CxOk K c) (st : St c G ad S s) (hv : IsV G ad v z) (hk : c.env.kindOf x = some .local)
    (h : ∀ h' t, St c G ad (S.set x v) { s with heap := h', toks := t } → Step c G ad S s G ad (S.set x v) { s with heap := h', toks := t } → P () { s with heap := h', toks := t }) : wpAny (model prog w) A (storeName c.env x z) P Nope s := by
  obtain ⟨m, hm⟩ := st.ns
  refine wpAny_storeName_local hk hm.1 (fun h' hn hs => ?_) (by rw [C.kind]; rfl)
  exact h h' _ (st.store C hm hn (fun u => rfl) hs hv hk) (step_same hs (.inl rfl) fun b q => q.vars rfl)
theorem storeCell {A : Around} {c : Cx} {G : PH} {ad : List Addr} {s : Shared} {x : Str} {v : V} {z : Value} {P : Unit → Shared → Prop} (C : CxOk K c) (st : St c G ad S s) (hv : IsV G ad v z) (hk : c.env.kindOf x = some .cell) (hc : c.cs ≠ [])
    (h : ∀ h' t, St c G ad (S.set x v) { s with heap := h', toks := t } → Step c G ad S s G ad (S.set x v) { s with heap := h', toks := t } → P () { s with heap := h', toks := t }) : wpAny (model prog w) A (storeName c.env x z) P Nope s := by
  obtain ⟨a, ha, hac⟩ := C.own x hk hc
  obtain ⟨y, hy⟩ := st.cex a hac
  refine wpAny_storeName_cell C.kind hk ha hy fun h' hn hs => ?_
  exact h h' s.toks (st.storeCell C ha hac hn hs hv hk) (step_same hs (.inr (.inl hac)) fun b q => q.vars rfl)

theorem run_assign {x : Str} {pos' pos : Pos} {value : Expr} {v : V} (he : Evals prog w K n sx S value v) (hk : sx.scope.names.lookup x = some .local) (h : Q .next (S.set x v))
    (hs : ∀ env, swapsWith value (some (.Name x pos')) pos.line env = pure false := by intro _; rfl) : Run1 prog w K n sx S (.Assign [.Name x pos'] value pos) Q := by
  intro A c G ad s R C hsc st
  subst hsc
  refine wpAny_Assign_Name (wpg (he A c G ad s R C rfl st) fun z s₁ G₁ g₁ e₁ => ?_) (hs _)
  exact storeLocal C (st.step C g₁) e₁ hk fun h' t x y => ⟨G₁, ad, _, x, g₁.step.trans y, h⟩

theorem run_assignC {x : Str} {pos' pos : Pos} {value : Expr} {v : V} (he : Evals prog w K n sx S value v) (hk : sx.scope.names.lookup x = some .cell) (hfn : sx.fn = true) (h : Q .next (S.set x v))
    (hs : ∀ env : Env, env.scope = sx.scope → swapsWith value (some (.Name x pos')) pos.line env = pure false := by intro _ _; rfl) : Run1 prog w K n sx S (.Assign [.Name x pos'] value pos) Q := by
  intro A c G ad s R C hsc st
  subst hsc
  have hne := Cx.fn_ne hfn
  refine wpAny_Assign_Name (wpg (he A c G ad s R C rfl st) fun z s₁ G₁ g₁ e₁ => ?_) (hs _ rfl)
  exact storeCell C (st.step C g₁) e₁ hk hne fun h' t x y => ⟨G₁, ad, _, x, g₁.step.trans y, h⟩

theorem run_aug {x : Str} {pos' pos : Pos} {op : Operator} {value : Expr} {a b d : D} (hx : S.get x = some (.d a)) (he : Evals prog w K n sx S value (.d b)) (ho : Op2 prog w n (inplaceOp op) a b d) (hk : sx.scope.names.lookup x = some .local) (h : Q .next (S.set x (.d d))) :
    Run1 prog w K n sx S (.AugAssign (.Name x pos') op value pos) Q := by
  intro A c G ad s R C hsc st
  subst hsc
  obtain ⟨m, hm, hm2⟩ := st.ns
  obtain ⟨y, h1, h2⟩ := hm2 x _ hx hk
  refine wpAny_AugAssign_Name (wpAny_loadName_local C.kind hk hm h1 (wpg (he A c G ad s R C rfl st) fun z s₁ G₁ g₁ e₁ => ?_))
  refine wpg (ho A [tabA] G₁ s₁ y z R g₁.sub (Is.mono g₁.le h2) e₁) fun u s₂ G₂ g₂ e₂ => ?_
  exact storeLocal (v := .d d) C ((st.step C g₁).step C g₂) e₂ hk fun h' t x y => ⟨G₂, ad, _, x, (g₁.trans g₂).step.trans y, h⟩

theorem run_if {test : Expr} {body orelse : List Stmt} {pos : Pos} {b : Bool} (ht : Tests prog w K n sx S test b) (h1 : b = true → Runs prog w K n sx S body Q) (h2 : b = false → Runs prog w K n sx S orelse Q) : Run1 prog w K n sx S (.If test body orelse pos) Q := by
  intro A c G ad s R C hsc st
  refine wpAny_If (wpg (ht A c G ad s R C hsc st) fun y s₁ G₁ g₁ e₁ => ?_)
  subst e₁
  cases y with
  | true => exact wpAny_mono (h1 rfl A c G₁ ad s₁ R C hsc (st.step C g₁)) (fun _ _ p => p.step g₁.step) fun _ _ f => f
  | false => exact wpAny_mono (h2 rfl A c G₁ ad s₁ R C hsc (st.step C g₁)) (fun _ _ p => p.step g₁.step) fun _ _ f => f

theorem run_ret {e : Expr} {pos : Pos} {d : D} (he : Evals prog w K n sx S e (.d d)) (h : Q (.ret d) S) : Run1 prog w K n sx S (.Return (some e) pos) Q := by
  intro A c G ad s R C hsc st
  exact wpAny_Return_some (wpg (he A c G ad s R C hsc st) fun y s₁ G₁ g₁ e₁ => ⟨G₁, ad, S, d, st.step C g₁, g₁.step, e₁, h⟩)
theorem run_brk {pos : Pos} (h : Q .brk S) : Run1 prog w K n sx S (.Break pos) Q := by
  intro A c G ad s R C hsc st
  exact wpAny_Break ⟨G, ad, S, st, .refl .., h⟩
theorem run_assert {test : Expr} {msg : Option Expr} {pos : Pos} (ht : Tests prog w K n sx S test true) (h : Q .next S) : Run1 prog w K n sx S (.Assert test msg pos) Q := by
  intro A c G ad s R C hsc st
  exact wpAny_Assert_holds (wpg (ht A c G ad s R C hsc st) fun y s₁ G₁ g₁ e₁ => ⟨e₁, G₁, ad, S, st.step C g₁, g₁.step, h⟩)

/-- a list display stored: a new mutable -/
noncomputable def EvalsL (prog : Program) (w : World) (K : Frag) (n : Nat) (sx : Sx) (S : State) (es : List Expr) (vs : List V) : Prop :=
  ∀ (A : Around) (c : Cx) (G : PH) (ad : List Addr) (s : Shared) (pos : Pos), Room A n → CxOk K c → c.sx = sx → St c G ad S s →
    wpAny (model prog w) A (spliced (backTo pos (starEach es c.env))) (fun ys s' => ∃ G', Grow [tabA] G s G' s' ∧ IsVL G' ad vs ys) Nope s
theorem evl_nil : EvalsL prog w K n sx S [] [] := by
  intro A c G ad s pos R C hsc st
  exact args_nil ⟨G, .refl st.sub, .nil⟩
theorem evl_cons {e : Expr} {es : List Expr} {v : V} {vs : List V} (h1 : Evals prog w K n sx S e v) (h2 : EvalsL prog w K n sx S es vs) (he : ∀ env, starEach (e :: es) env = (false, eval e env) :: starEach es env := by intro _; rfl) : EvalsL prog w K n sx S (e :: es) (v :: vs) := by
  intro A c G ad s pos R C hsc st
  refine args_cons (wpg (h1 A c G ad s R C hsc st) fun y s₁ G₁ g₁ e₁ => ?_) (he _)
  refine wpg (h2 A c G₁ ad s₁ pos R C hsc (st.step C g₁)) fun ys s₂ G₂ g₂ e₂ => ⟨G₂, g₁.trans g₂, .cons (IsV.mono g₂.le e₁) e₂⟩

end
end Mine
end

-- the text M5
section
open PySem PySem.Calls PySem.W PyProof.Rows
set_option maxRecDepth 100000
namespace Mine

noncomputable def Spec (prog : Program) (w : World) (K : Frag) (n : Nat) (f : Addr) (ds : List D) (d : D) : Prop :=
  ∀ (A : Around) (s : Shared) (G : PH) (vs : List Value), Room A n → TopF K s.heap → K.lookup tabA = none → TabInv G s.heap → AllBare s.gens → PSub G s.heap → G tabA = none → (∀ a o, K.lookup a = some o → G a = some o) → IsL G ds vs →
    codeAny (model prog w) A (.call (.ref f) ⟨vs, []⟩) (fun r s' => ∃ v G', r = .ok (.ret v) ∧ Grow [tabA] G s G' s' ∧ Is G' d v) s

theorem bindL_notin {kf : Str → Option NameKind} : ∀ (l : List (Str × Value)) (m : Str → Option Value) (x : Str), x ∉ l.map (·.1) → bindL kf l m x = m x
  | [], _, _, _ => rfl
  | (n, v) :: r, m, x, h => by
    have h1 : x ≠ n := fun q => h (by rw [q]; exact List.mem_cons_self)
    have h2 : x ∉ r.map (·.1) := fun q => h (List.mem_cons_of_mem _ q)
    unfold bindL
    rw [bindL_notin r _ x h2]
    split
    · simp [h1]
    · rfl
theorem bindC_notin {kf : Str → Option NameKind} : ∀ (l : List (Str × Value)) (m : Str → Option Value) (x : Str), x ∉ l.map (·.1) → bindC kf l m x = m x
  | [], _, _, _ => rfl
  | (n, v) :: r, m, x, h => by
    have h1 : x ≠ n := fun q => h (by rw [q]; exact List.mem_cons_self)
    have h2 : x ∉ r.map (·.1) := fun q => h (List.mem_cons_of_mem _ q)
    unfold bindC
    rw [bindC_notin r _ x h2]
    split
    · rfl
    · simp [h1]

theorem zip_bound {G : PH} {kf : Str → Option NameKind} : ∀ {names : List Str} {ds : List D} {vs : List Value} (m : Str → Option Value) {x : Str} {v : V}, names.Nodup → IsL G ds vs → (names.zip (ds.map V.d)).lookup x = some v →
    ∃ d y, v = .d d ∧ Is G d y ∧ (kf x = some .local → bindL kf (names.zip vs) m x = some y) ∧ (kf x ≠ some .local → bindC kf (names.zip vs) m x = some y)
  | [], _, _, _, _, _, _, _, e => by simp at e
  | _ :: _, [], _, _, _, _, _, _, e => by simp at e
  | nm :: names, d :: ds, _, m, x, v, nd, .cons (v := y) h1 h2, e => by
    have nd' := List.nodup_cons.mp nd
    simp only [List.map_cons, List.zip_cons_cons, List.lookup_cons] at e
    have hni : ∀ (vs : List Value), nm ∉ (names.zip vs).map (·.1) := fun vs q => by
      obtain ⟨p, hp, rfl⟩ := List.mem_map.mp q
      exact nd'.1 (List.of_mem_zip hp).1
    by_cases hx : x = nm
    · subst hx
      simp at e; subst e
      refine ⟨d, y, rfl, h1, fun hk => ?_, fun hk => ?_⟩
      · show bindL kf ((x, y) :: names.zip _) m x = some y
        unfold bindL
        rw [bindL_notin _ _ _ (hni _), if_pos hk]; simp
      · show bindC kf ((x, y) :: names.zip _) m x = some y
        unfold bindC
        rw [bindC_notin _ _ _ (hni _), if_neg hk]; simp
    · have : (x == nm) = false := beq_eq_false_iff_ne.mpr hx
      rw [this] at e
      obtain ⟨d', y', e1, e2, e3, e4⟩ := zip_bound (kf := kf) (if kf nm = some .local then fun z => if z = nm then some y else m z else m) nd'.2 h2 e
      obtain ⟨d'', y'', f1, f2, f3, f4⟩ := zip_bound (kf := kf) (if kf nm = some .local then m else fun z => if z = nm then some y else m z) nd'.2 h2 e
      by_cases hk : kf x = some .local
      · exact ⟨d', y', e1, e2, e3, fun q => absurd hk q⟩
      · exact ⟨d'', y'', f1, f2, fun q => absurd q hk, f4⟩

theorem cellsFrom_acc : ∀ (names : List (Str × NameKind)) (n : Nat) (acc : List (Str × Addr)) (x : Str), (acc.lookup x).isSome = true → ((cellsFrom n names acc).lookup x).isSome = true
  | [], _, _, _, h => h
  | (nm, k) :: r, n, acc, x, h => by
    unfold cellsFrom
    split
    · refine cellsFrom_acc r _ _ x ?_
      rw [List.lookup_cons]
      split
      · rfl
      · exact h
    · exact cellsFrom_acc r _ _ x h
theorem cellsFrom_has : ∀ (names : List (Str × NameKind)) (n : Nat) (acc : List (Str × Addr)) (x : Str), names.lookup x = some .cell → ((cellsFrom n names acc).lookup x).isSome = true
  | [], _, _, _, h => by cases h
  | (nm, k) :: r, n, acc, x, h => by
    rw [List.lookup_cons] at h
    unfold cellsFrom
    cases hx : x == nm with
    | true =>
      rw [hx] at h; cases h
      simp only [beq_self_eq_true, if_true]
      refine cellsFrom_acc r _ _ x ?_
      rw [List.lookup_cons, hx]; rfl
    | false =>
      rw [hx] at h
      split
      · exact cellsFrom_has r _ _ x h
      · exact cellsFrom_has r _ _ x h

theorem cellsFrom_any : ∀ (names : List (Str × NameKind)) (n : Nat) (acc : List (Str × Addr)), (cellsFrom n names acc).isEmpty = (acc.isEmpty && !names.any (·.2 == .cell))
  | [], _, acc => by simp [cellsFrom]
  | (nm, k) :: r, n, acc => by
    unfold cellsFrom
    cases hk : (k == NameKind.cell) with
    | true =>
      simp only [if_true]
      rw [cellsFrom_any r]
      simp [hk]
    | false =>
      simp only [Bool.false_eq_true, if_false]
      rw [cellsFrom_any r]
      simp [hk]
theorem cellsFrom_keys : ∀ (names : List (Str × NameKind)) (n : Nat) (acc : List (Str × Addr)), (names.map (·.1)).Nodup → (acc.map (·.1)).Nodup → (∀ x ∈ names.map (·.1), x ∉ acc.map (·.1)) → ((cellsFrom n names acc).map (·.1)).Nodup
  | [], _, _, _, h, _ => h
  | (nm, k) :: r, n, acc, h1, h2, h3 => by
    have h1' := List.nodup_cons.mp h1
    have h4 : nm ∉ acc.map (·.1) := h3 nm List.mem_cons_self
    unfold cellsFrom
    split
    · refine cellsFrom_keys r _ _ h1'.2 (List.nodup_cons.mpr ⟨h4, h2⟩) fun x hx q => ?_
      rcases List.mem_cons.mp q with q | q
      · exact h1'.1 (q ▸ hx)
      · exact h3 x (List.mem_cons_of_mem _ hx) q
    · exact cellsFrom_keys r _ _ h1'.2 h2 fun x hx => h3 x (List.mem_cons_of_mem _ hx)
theorem one_of_keys {α : Type} : ∀ {l : List (Str × α)}, (l.map (·.1)).Nodup → ∀ {y : Str} {a b : α}, (y, a) ∈ l → (y, b) ∈ l → a = b
  | p :: r, h, y, a, b, ha, hb => by
    have h' := List.nodup_cons.mp h
    rcases List.mem_cons.mp ha with e | ha <;> rcases List.mem_cons.mp hb with e' | hb
    · rw [← e] at e'; cases e'; rfl
    · exact absurd (List.mem_map.mpr ⟨_, hb, by rw [← e]⟩) h'.1
    · exact absurd (List.mem_map.mpr ⟨_, ha, by rw [← e']⟩) h'.1
    · exact one_of_keys h'.2 ha hb

noncomputable def sxOf (fd : FuncData) : Sx := ⟨fd.scope, fd.code, fd.qualname ++ ".<locals>.", fd.scope.names.any (·.2 == .cell)⟩
noncomputable def entryS (names : List Str) (ds : List D) : State := ⟨names.zip (ds.map V.d), []⟩

section
variable {prog : Program} {w : World} {K : Frag} {n : Nat}

theorem vs0 {P : List Value → Prop} (H : P []) (vs : List Value) (h : vs.length = 0) : P vs := by
  rw [List.length_eq_zero_iff.mp h]; exact H
theorem vsS {P : List Value → Prop} {n : Nat} (H : ∀ a vs, vs.length = n → P (a :: vs)) (vs : List Value) (h : vs.length = n + 1) : P vs := by
  obtain ⟨a, r, e⟩ := List.exists_cons_of_length_eq_add_one h
  rw [e] at h ⊢; exact H a r (Nat.succ.inj h)
theorem vs1 {P : List Value → Prop} (H : ∀ a, P [a]) : ∀ vs : List Value, vs.length = 1 → P vs := vsS fun a => vs0 (H a)
theorem vs2 {P : List Value → Prop} (H : ∀ a b, P [a, b]) : ∀ vs : List Value, vs.length = 2 → P vs := vsS fun a => vs1 (H a)
theorem vs3 {P : List Value → Prop} (H : ∀ a b c, P [a, b, c]) : ∀ vs : List Value, vs.length = 3 → P vs := vsS fun a => vs2 (H a)
theorem spec_intro {f : Addr} {oc : Value} {od : Option Addr} {osl : Array (Option Value)} {fd : FuncData} {body : List Stmt} {names : List Str} {ds : List D} {d : D}
    (ho : K.lookup f = some ⟨oc, od, .func fd, osl⟩) (hcd : codeIn K fd.code fd.qualname = true) (hbody : fd.body = .stmts body)
    (hbind : ∀ vs : List Value, vs.length = ds.length → bindArgs fd ⟨vs, []⟩ = pure (names.zip vs)) (hnd : names.Nodup) (hclo : fd.closure = [])
    (hkind : ∀ x ∈ names, fd.scope.names.lookup x = some .local ∨ fd.scope.names.lookup x = some .cell) (hg : fd.globals = mainGlobals) (hb : fd.builtins = builtinsNs)
    (hco : fd.scope.isCoroutine = false) (hgen : fd.scope.isGenerator = false) (hk : fd.scope.kind = .function) (hnn : (fd.scope.names.map (·.1)).Nodup)
    (h : Runs prog w K n (sxOf fd) (entryS names ds) body (fun fl _ => fl = .ret d)) : Spec prog w K (n + 1) f ds d := by
  intro A s G vs R T hKt ti gb sub gt hkg hvs
  have hlen := hvs.length
  have hob := T.obj _ _ ho
  refine codeAny_call_cells (fd := fd) (R.room) hob rfl T.nolimit (codeRec_of T.obj hcd) hbody (hbind vs hlen) hclo ?_ ?_ hco hgen hk
  · intro x hx
    have hx1 : x.1 ∈ names := (List.of_mem_zip hx).1
    rcases hkind _ hx1 with q | q
    · exact .inl q
    · exact .inr ⟨q, cellsFrom_has _ _ _ _ q⟩
  intro s₁ x
  let c : Cx := ⟨callEnvC fd s.heap.objs.size f, s, G, [tabA], (callEnvC fd s.heap.objs.size f).cells.map (·.2)⟩
  have hcellmem : ∀ y a, (callEnvC fd s.heap.objs.size f).cells.lookup y = some a → (y, a) ∈ (callEnvC fd s.heap.objs.size f).cells := fun y a e => mem_of_lookup e
  have tex : ∃ o, s.heap.get? tabA = some o := ti.there
  have C : CxOk K c := by
    refine ⟨hg, hb, hk, new_size _, ?_, ?_, T, List.mem_singleton.mpr rfl, ?_, ?_, ?_, ?_, sub, ?_, hkg⟩
    · intro a ha
      obtain ⟨⟨y, a'⟩, hm, rfl⟩ := List.mem_map.mp ha
      exact new_ge (Nat.le_of_lt (x.above y a' hm))
    · intro hL
      obtain ⟨⟨y, a'⟩, hm, e⟩ := List.mem_map.mp hL
      have := x.above y a' hm
      have e' : a' = s.heap.objs.size := e
      exact absurd (e' ▸ this) (Nat.lt_irrefl _)
    · intro b hb'
      rw [List.mem_singleton.mp hb']
      exact ⟨tex, hKt, by decide, by decide, by decide, by decide⟩
    · intro y a e
      exact .inl (List.mem_map.mpr ⟨_, hcellmem y a e, rfl⟩)
    · intro y z a e e'
      exact name_of_addr x.apart (hcellmem y a e) (hcellmem z a e')
    · intro y hy _
      have := cellsFrom_has fd.scope.names (s.heap.objs.size + 1) [] y hy
      obtain ⟨a, ha⟩ := Option.isSome_iff_exists.mp this
      exact ⟨a, ha, List.mem_map.mpr ⟨_, hcellmem y a ha, rfl⟩⟩
    · intro b hb'
      rw [List.mem_singleton.mp hb']; exact gt
  have gL : ∀ b, s.heap.objs.size ≤ b → G b = none := fun b hb' => by
    cases q : G b with
    | none => rfl
    | some o => exact absurd (Heap.lt_size (sub _ _ q)) (Nat.not_lt.mpr hb')
  have ec : c.env = callEnvC fd s.heap.objs.size f := rfl
  obtain ⟨h₁, tk, e₁⟩ := x.toInCall.same
  have st : St c G [] (entryS names ds) s₁ := by
    refine ⟨fun b o _ e => x.toInCall.keep b o e, fun b hb' => by rw [List.mem_singleton.mp hb']; obtain ⟨o, e⟩ := tex; exact ⟨o, x.toInCall.keep _ _ e⟩, fun _ _ e => e, fun b o e => x.toInCall.keep b o (sub b o e), fun _ _ e => .inl e, ti.keeps x.toInCall.keep, by rw [e₁], by rw [e₁]; exact gb, ⟨_, x.toInCall.ns, ?_⟩, ?_, ?_, gL _ (Nat.le_refl _), ?_, ?_, ?_, ?_, rfl⟩
    · intro y v h1 h2
      obtain ⟨d', y', rfl, e2, e3, _⟩ := zip_bound (kf := (callEnvC fd s.heap.objs.size f).kindOf) (fun _ => none) hnd hvs h1
      exact ⟨y', e3 h2, e2⟩
    · intro y v h1 h2
      obtain ⟨d', y', rfl, e2, _, e4⟩ := zip_bound (kf := (callEnvC fd s.heap.objs.size f).kindOf) (fun _ => none) hnd hvs h1
      have hnl : (callEnvC fd s.heap.objs.size f).kindOf y ≠ some .local := fun q => by
        have h2' : (callEnvC fd s.heap.objs.size f).kindOf y = some .cell ∨ (callEnvC fd s.heap.objs.size f).kindOf y = some .free := h2
        rw [q] at h2'; rcases h2' with h2' | h2' <;> cases h2'
      have hyc : (callEnvC fd s.heap.objs.size f).kindOf y = some .cell := by
        have hm := mem_of_lookup h1
        rcases hkind y (List.of_mem_zip hm).1 with q | q
        · exact absurd q hnl
        · exact q
      obtain ⟨a, ha, _⟩ := C.own y hyc (by
        intro q
        have := cellsFrom_has fd.scope.names (s.heap.objs.size + 1) [] y hyc
        obtain ⟨a, ha⟩ := Option.isSome_iff_exists.mp this
        have hm : a ∈ c.cs := List.mem_map.mpr ⟨_, hcellmem y a ha, rfl⟩
        rw [q] at hm; cases hm)
      exact ⟨a, y', ha, (e4 hnl) ▸ x.cell y a ha, e2⟩
    · intro a ha
      obtain ⟨⟨y, a'⟩, hm, rfl⟩ := List.mem_map.mp ha
      have : ((callEnvC fd s.heap.objs.size f).cells.lookup y).isSome = true := by
        cases q : (callEnvC fd s.heap.objs.size f).cells.lookup y with
        | some _ => rfl
        | none => exact absurd (List.lookup_eq_none_iff.mp q (y, a') hm) (by simp)
      obtain ⟨a'', ha''⟩ := Option.isSome_iff_exists.mp this
      by_cases hq : a'' = a'
      · subst hq; exact ⟨_, x.cell y _ ha''⟩
      · exact absurd (one_of_keys (cellsFrom_keys fd.scope.names (s.heap.objs.size + 1) [] hnn List.nodup_nil (fun _ _ q => nomatch q)) (hcellmem y a'' ha'') hm) hq
    · intro a ha
      obtain ⟨⟨y, a'⟩, hm, rfl⟩ := List.mem_map.mp ha
      exact gL _ (Nat.le_of_lt (x.above y a' hm))
    · intro k m hk'; cases hk'
    · intro k m a hk'; cases hk'
    · intro j k m m' a hj; cases hj
  have hsx : c.sx = sxOf fd := by
    have e1 : (!c.cs.isEmpty) = fd.scope.names.any (·.2 == .cell) := by
      show (!((callEnvC fd s.heap.objs.size f).cells.map (·.2)).isEmpty) = _
      have e2 : (callEnvC fd s.heap.objs.size f).cells = cellsFrom (s.heap.objs.size + 1) fd.scope.names [] := rfl
      rw [List.isEmpty_map, e2, cellsFrom_any]
      simp
    unfold Cx.sx sxOf
    rw [e1]
    rfl
  refine wpAny_mono (h (A.deeper _) c G [] s₁ R.deeper C hsx st) (fun fl s' p => ?_) fun _ _ f => f.elim
  cases fl with
  | ret v =>
    obtain ⟨G', ad', S', d', y, t, z, q⟩ := p
    cases q
    refine ⟨v, G', rfl, ⟨fun b o hb' e => y.keep b o hb' e, fun b o e => ?_, y.le, y.sub, y.fresh, fun _ => y.tab, y.os, fun _ => y.gens⟩, z⟩
    by_cases hb' : b ∈ c.X
    · exact y.thX b hb'
    · exact ⟨o, y.keep b o hb' e⟩
  | next => obtain ⟨_, _, _, _, _, q⟩ := p; cases q
  | brk => obtain ⟨_, _, _, _, _, q⟩ := p; cases q
  | cont => obtain ⟨_, _, _, _, _, q⟩ := p; cases q
end
end Mine
end

-- the text M6
section
open PySem PySem.Calls PySem.W PyProof.Rows
set_option maxRecDepth 100000
namespace Mine
section
variable {prog : Program} {w : World} {K : Frag} {n m : Nat} {sx : Sx} {S : State}

theorem ev_call {f : Addr} {fn : Expr} {args : List Expr} {pos : Pos} {ds : List D} {d : D} {oc : Value} {od : Option Addr} {osl : Array (Option Value)} {fd : FuncData}
    (hf : Evals prog w K m sx S fn (.d (.raw (.ref f)))) (ha : EvalsL prog w K m sx S args (ds.map V.d)) (ho : K.lookup f = some ⟨oc, od, .func fd, osl⟩) (hs : Spec prog w K n f ds d) (hn : n ≤ m) (hK : K.lookup tabA = none)
    (hne : ∃ e rest, args = e :: rest ∧ ∀ env, starEach (e :: rest) env = (false, eval e env) :: starEach rest env)
    (he : ∀ env, eval (.Call fn args [] pos) env = (do callWith pos (← eval fn env) [] (backTo pos (starEach args env)) (backToKw pos (keywordEach [] env))) := by intro _; rfl) :
    Evals prog w K m sx S (.Call fn args [] pos) (.d d) := by
  intro A c G ad s R C hsc st
  refine Call_ (wpg (hf A c G ad s R C hsc st) fun y s₁ G₁ g₁ e₁ => ?_) (he _)
  (first | obtain rfl := Is.inv e₁ | obtain ⟨_, rfl⟩ := Is.inv e₁)
  have st₁ := st.step C g₁
  obtain ⟨e, rest, rfl, hst⟩ := hne
  refine callWith_def (o := ⟨oc, od, .func fd, osl⟩) (fd := fd) rfl (wpg (ha A c G₁ ad s₁ pos R C hsc st₁) fun ys s₂ G₂ g₂ e₂ => ?_) (hst _)
  have st₂ := st₁.step C g₂
  have T := st₂.top C
  have gt : G₂ tabA = none := by
    cases q : G₂ tabA with
    | none => rfl
    | some o =>
      rcases st₂.fresh _ _ q with z | z
      · rw [C.g₀X _ C.tabX] at z; cases z
      · obtain ⟨o', e'⟩ := (C.X _ C.tabX).1; exact absurd rfl (z.ne e')
  refine ⟨T.obj _ _ ho, wpAny_call (codeAny_mono (hs A s₂ G₂ ys (R.le hn) T hK st₂.tab st₂.gens st₂.sub gt (fun a o e => st₂.le a o (C.kg a o e)) (isL_of_isVL e₂)) fun r s' q => ?_)⟩
  obtain ⟨v, G', rfl, g, hv⟩ := q
  exact ⟨G', (g₁.trans g₂).trans g, hv⟩
end

noncomputable abbrev KK (w : World) : Frag := hd.heap_39 w.params
theorem KKtab (w : World) : (KK w).lookup tabA = none := by kernel_rfl

set_option maxHeartbeats 2000000 in
theorem spec_S_IFMT {prog : Program} {w : World} {m : Int} : Spec prog w (KK w) 1 69 [.int m] (.int (Builtin.bitAnd m 61440)) := by
  refine spec_intro (names := ["mode"]) (by rfl) (by kernel_rfl) (by rfl) ?_ (by decide) (by rfl) (by decide +kernel) (by rfl) (by rfl) (by rfl) (by rfl) (by rfl) (by decide +kernel) ?_
  · exact vs1 fun a => rfl
  · refine runs_cons (run_ret (ev_binop (ev_local (by rfl) (by rfl)) ev_int op_and_int) rfl)
end Mine
end

-- the text M7
section
open PySem PySem.Calls PySem.W PyProof.Rows
set_option maxRecDepth 100000
namespace Mine

/-- a walk over items, as the loops want it -/
structure Wk (prog : Program) (w : World) (A : Around) (G₀ : PH) (target : Expr) (items : List D) (I : Addr) (fp wr : List Addr) (W : Nat → Heap → Prop) : Prop where
  item : ∀ (i : Nat) (s : Shared) (G : PH) (Q : Value → Shared → Prop), i < items.length → W i s.heap → PSub G s.heap → PLe G₀ G → (∀ b ∈ wr, G b = none) →
    (∀ v h' tk G' d, PLe G G' → PSub G' h' → (∀ b o, G' b = some o → G b = some o ∨ New s.heap b) → W (i + 1) h' → (∀ b o, b ∉ wr → s.heap.get? b = some o → h'.get? b = some o) → items[i]? = some d → Is G' d v → Q v { s with heap := h', toks := tk }) →
    wpAny (model prog w) A (pyNext (.ref I)) (fun r s₁ => ∃ v, r = some v ∧ wpAny (model prog w) A (letOwnedTupleGo target (.ref I) v) (fun _ s₂ => Q v s₂) Nope s₁) Nope s
  done : ∀ (s : Shared) (Q : Option Value → Shared → Prop), W items.length s.heap → (∀ h' tk, (∀ b o, b ∉ wr → s.heap.get? b = some o → h'.get? b = some o) → Q none { s with heap := h', toks := tk }) → wpAny (model prog w) A (pyNext (.ref I)) Q Nope s
  frame : ∀ i h h', W i h → (∀ b ∈ fp, ∀ o, h.get? b = some o → h'.get? b = some o) → W i h'
  self : ∀ i (s : Shared) (Q : Value → Shared → Prop), W i s.heap → Q (.ref I) s → wpAny (model prog w) A (pyIter (.ref I)) Q Nope s
  there : ∀ i h, W i h → ∀ b ∈ wr, ∃ o, h.get? b = some o

noncomputable def ItPost (prog : Program) (w : World) (A : Around) (target : Expr) (items : List D) (G₁ : PH) (s₁ : Shared) (it : Value) (s₂ : Shared) : Prop :=
  ∃ I fp wr W, it = .ref I ∧ Wk prog w A G₁ target items I fp wr W ∧ W 0 s₂.heap ∧ Same s₁ s₂ ∧ (∀ b ∈ wr, New s₁.heap b) ∧ (∀ b ∈ fp, b ∈ wr ∨ ∃ o, s₁.heap.get? b = some o ∧ G₁ b = some o)

/-- pyIter of a datum: a walk over its items -/
noncomputable def Iters (prog : Program) (w : World) (n : Nat) (target : Expr) (d : D) (items : List D) : Prop :=
  ∀ (A : Around) (G : PH) (s : Shared) (v : Value), Room A n → PSub G s.heap → Is G d v → wpAny (model prog w) A (pyIter v) (ItPost prog w A target items G s) Nope s

/-- what a loop runs over -/
noncomputable def Src (prog : Program) (w : World) (K : Frag) (n : Nat) (sx : Sx) (S : State) (target iter : Expr) (items : List D) : Prop :=
  ∀ (A : Around) (c : Cx) (G : PH) (ad : List Addr) (s : Shared), Room A n → CxOk K c → c.sx = sx → St c G ad S s →
    wpAny (model prog w) A (eval iter c.env) (fun x sm => ∃ G₁ s₁, Grow [tabA] G s G₁ s₁ ∧ Same s₁ sm ∧ wpAny (model prog w) A (pyIter x) (ItPost prog w A target items G₁ s₁) Nope sm) Nope s

theorem src_of {prog : Program} {w : World} {K : Frag} {n : Nat} {sx : Sx} {S : State} {target iter : Expr} {di : D} {items : List D} (hit : Evals prog w K n sx S iter (.d di)) (hI : Iters prog w n target di items) : Src prog w K n sx S target iter items := by
  intro A c G ad s R C hsc st
  exact wpg (hit A c G ad s R C hsc st) fun x s₁ G₁ g₁ e₁ => ⟨G₁, s₁, g₁, .refl _, hI A G₁ s₁ x R g₁.sub e₁⟩

set_option tactic.hygienic true in
theorem lets_plain {prog : Program} {w : World} {A : Around} {target : Expr} {I : Addr} {x : Value} {s : Shared} {Q : Unit → Shared → Prop} {E : Value → Shared → Prop} {o : Obj} {T : String} (ho : s.heap.get? I = some o) (hc : o.cls = .type T)
    (hT : (["enumerate", "zip", "dict_itemiterator", "dict_reverseitemiterator", "odict_iterator", "itertools.zip_longest", "itertools.pairwise"] : List String).contains T = false) (h : Q () s) : wpAny (model prog w) A (letOwnedTupleGo target (.ref I) x) Q E s := by
  unfold letOwnedTupleGo
  split
  all_goals first
    | exact wpAny_pure h
    | (split
       all_goals first
         | (rename_i r a hr
            cases hr
            refine wpAny_bind (wpAny_load ho ?_)
            rw [hc]
            split
            · rename_i n vs hn hv
              cases hn
              simp only [hT, Bool.false_and, Bool.false_eq_true, if_false]
              exact wpAny_pure h
            · exact wpAny_pure h)
         | exact wpAny_pure h)

theorem wk_of_walks {prog : Program} {w : World} {A : Around} {G₀ : PH} {target : Expr} {items : List D} {I : Addr} {fp wr : List Addr} {P : Nat → Value → Prop} {W : Nat → Heap → Prop} (hw : Walks prog w A I fp wr items.length P W) (hitem : ∀ i x, i < items.length → P i x → ∃ d, items[i]? = some d ∧ Is G₀ d x)
    (hth : ∀ i h, W i h → ∀ b ∈ wr, ∃ o, h.get? b = some o) (hlets : ∀ i h, W i h → ∃ o T, h.get? I = some o ∧ o.cls = .type T ∧ (["enumerate", "zip", "dict_itemiterator", "dict_reverseitemiterator", "odict_iterator", "itertools.zip_longest", "itertools.pairwise"] : List String).contains T = false) :
    Wk prog w A G₀ target items I fp wr W where
  item := fun i s G Q hi hW sub le hwr h => by
    refine hw.item i _ _ _ hi hW fun v h' tk hP hW' hk => ⟨v, rfl, ?_⟩
    obtain ⟨o, T, ho, hc, hT⟩ := hlets _ _ hW'
    obtain ⟨d, hd, hv⟩ := hitem i v hi hP
    refine lets_plain (s := { s with heap := h', toks := tk }) ho hc hT ?_
    exact h v h' tk G d (fun _ _ e => e) (fun b o e => hk b o (fun q => by rw [hwr b q] at e; cases e) (sub b o e)) (fun _ _ e => .inl e) hW' hk hd (hv.mono le)
  done := fun s Q hW h => hw.done _ _ _ hW h
  frame := hw.frame
  self := fun i s Q hW h => hw.self i _ _ _ hW h
  there := hth

section
variable {prog : Program} {w : World} {n : Nat}

theorem IsL.getv {G : PH} {l : List D} {vs : List Value} {i : Nat} {v : Value} (h : IsL G l vs) (e : vs[i]? = some v) : ∃ d, l[i]? = some d ∧ Is G d v := by
  have hl := h.length
  have hi : i < vs.length := by
    rcases Nat.lt_or_ge i vs.length with q | q
    · exact q
    · rw [List.getElem?_eq_none q] at e; cases e
  have hi' : i < l.length := hl ▸ hi
  obtain ⟨v', e', h'⟩ := h.get (i := i) (d := l[i]) (by simp [hi'])
  rw [e] at e'; cases e'
  exact ⟨l[i], by simp [hi'], h'⟩

set_option tactic.hygienic true in
theorem iters_list {target : Expr} {items : List D} (hn : items.length ≤ sizeLine) : Iters prog w n target (.list items) items := by
  intro A G s v R sub x
  obtain ⟨a, o, vs, k, rfl, h1, h2, h3, h4⟩ := Is.inv x
  have hl : s.heap.IsList a vs := ⟨_, sub _ _ h1, h2, _, h3⟩
  have hla : a < s.heap.objs.size := Heap.lt_size (sub _ _ h1)
  have hlen : vs.size = items.length := by have := h4.length; simpa using this
  refine wpAny_pyIter_list hl ?_
  refine ⟨s.heap.objs.size, [s.heap.objs.size, a], [s.heap.objs.size], _, rfl, wk_of_walks (hlen ▸ Walks.list R.handled s.heap.objs.size a (Nat.ne_of_lt hla) vs) ?_ ?_ ?_, ⟨⟨_, Heap.get?_push_size _ rfl, rfl, rfl⟩, hl.push _⟩, Same.push s _ s.toks, ?_, ?_⟩
  · intro i y _ hy
    exact h4.getv (by simpa using hy)
  · intro i h hW b hb; rw [List.mem_singleton.mp hb]; obtain ⟨⟨o', ho', _⟩, _⟩ := hW; exact ⟨o', ho'⟩
  · intro i h hW
    obtain ⟨⟨o', ho', hc', _⟩, _⟩ := hW
    exact ⟨o', _, ho', hc', by decide⟩
  · intro b hb; rw [List.mem_singleton.mp hb]; exact new_size _
  · intro b hb
    rcases List.mem_cons.mp hb with rfl | hb
    · exact .inl (List.mem_singleton.mpr rfl)
    · rw [List.mem_singleton.mp hb]; exact .inr ⟨_, sub _ _ h1, h1⟩
set_option tactic.hygienic true in
theorem iters_tuple {target : Expr} {items : List D} : Iters prog w n target (.tuple items) items := by
  intro A G s v R sub x
  obtain ⟨a, o, vs, k, rfl, h1, h2, h3, h4⟩ := Is.inv x
  have hl : s.heap.IsTuple a vs := ⟨_, sub _ _ h1, h2, _, h3⟩
  have hla : a < s.heap.objs.size := Heap.lt_size (sub _ _ h1)
  have hlen : vs.size = items.length := by have := h4.length; simpa using this
  refine wpAny_pyIter_tuple hl ?_
  refine ⟨s.heap.objs.size, [s.heap.objs.size, a], [s.heap.objs.size], _, rfl, wk_of_walks (hlen ▸ Walks.tuple R.handled s.heap.objs.size a (Nat.ne_of_lt hla) vs) ?_ ?_ ?_, ⟨⟨_, Heap.get?_push_size _ rfl, rfl, rfl⟩, hl.push _⟩, Same.push s _ s.toks, ?_, ?_⟩
  · intro i y _ hy
    exact h4.getv (by simpa using hy)
  · intro i h hW b hb; rw [List.mem_singleton.mp hb]; obtain ⟨⟨o', ho', _⟩, _⟩ := hW; exact ⟨o', ho'⟩
  · intro i h hW
    obtain ⟨⟨o', ho', hc', _⟩, _⟩ := hW
    exact ⟨o', _, ho', hc', by decide⟩
  · intro b hb; rw [List.mem_singleton.mp hb]; exact new_size _
  · intro b hb
    rcases List.mem_cons.mp hb with rfl | hb
    · exact .inl (List.mem_singleton.mpr rfl)
    · rw [List.mem_singleton.mp hb]; exact .inr ⟨_, sub _ _ h1, h1⟩

/-- range's items -/
noncomputable def rngItems (a c : Int) (m : Nat) : List D := (List.range m).map fun (i : Nat) => D.int (a + (i : Int) * c)
set_option tactic.hygienic true in
theorem iters_range {target : Expr} {a b c : Int} {m : Nat} (hm : Builtin.Range.rangeSize a b c = m) (hs : Builtin.Range.small a b c = true) : Iters prog w n target (.rng a b c) (rngItems a c m) := by
  intro A G s v R sub x
  cases x with
  | rng h1 =>
    rename_i r t u v
    have hr : IsRange s.heap r a b c t u v := sub _ _ h1
    refine wpAny_pyIter_range hr hs ?_
    have hl : (rngItems a c m).length = m := by simp [rngItems]
    refine ⟨s.heap.objs.size, [s.heap.objs.size], [s.heap.objs.size], _, rfl, wk_of_walks (by rw [hl]; exact Walks.range R.handled s.heap.objs.size a c m) ?_ ?_ ?_, ?_, Same.push s _ s.toks, ?_, ?_⟩
    · intro i y hi hy
      obtain ⟨t', rfl⟩ := hy
      rw [hl] at hi
      exact ⟨.int (a + (i : Int) * c), by simp [rngItems, hi], .int _ _⟩
    · intro i h hW b hb; rw [List.mem_singleton.mp hb]; exact ⟨_, hW⟩
    · intro i h hW
      exact ⟨_, _, hW, rfl, by decide⟩
    · have := Heap.get?_push_size s.heap (o := { cls := .type "range_iterator", data := .fields #[rawInt a, rawInt (Builtin.Range.rangeSize a b c), rawInt c] }) rfl
      rw [hm] at this ⊢
      have e1 : a + ((0 : Nat) : Int) * c = a := by simp
      have e2 : (m : Int) - ((0 : Nat) : Int) = m := by simp
      show IsRangeIter _ _ (a + ((0 : Nat) : Int) * c) ((m : Int) - ((0 : Nat) : Int)) c
      rw [e1, e2]; exact this
    · intro b hb; rw [List.mem_singleton.mp hb]; exact new_size _
    · intro b hb
      exact .inl hb
end

theorem closure_of (env : Env) : ∀ (names : List (Str × NameKind)) (acc : List (Str × Addr)), (∀ x ∈ names, x.2 = .free → (env.cells.lookup x.1).isSome = true) →
    ∃ cl, (forIn names acc (fun (x : Str × NameKind) (r : List (Str × Addr)) => (if (x.2 == NameKind.free) = true then (do let a ← cellOf env x.1; pure (.yield ((x.1, a) :: r))) else pure (.yield r) : Sem (ForInStep (List (Str × Addr)))))) = pure cl ∧
      (∀ y a, cl.lookup y = some a → acc.lookup y = some a ∨ env.cells.lookup y = some a) ∧
      (∀ y, (∃ k ∈ names, k.1 = y ∧ k.2 = .free) ∨ (acc.lookup y).isSome = true → (cl.lookup y).isSome = true)
  | [], acc, _ => ⟨acc, rfl, fun _ _ e => .inl e, fun y h => h.elim (fun ⟨k, hk, _⟩ => nomatch hk) id⟩
  | (nm, k) :: r, acc, h => by
    rw [List.forIn_cons]
    have hr : ∀ x ∈ r, x.2 = .free → (env.cells.lookup x.1).isSome = true := fun x hx => h x (List.mem_cons_of_mem _ hx)
    by_cases hk : k = .free
    · subst hk
      obtain ⟨a, ha⟩ := Option.isSome_iff_exists.mp (h (nm, .free) List.mem_cons_self rfl)
      have ha' : env.cells.lookup nm = some a := ha
      have hc : cellOf env nm = pure a := by unfold cellOf; rw [ha']
      obtain ⟨cl, e1, e2, e3⟩ := closure_of env r ((nm, a) :: acc) hr
      refine ⟨cl, ?_, fun y b e => ?_, fun y hy => e3 y ?_⟩
      · simp only [beq_self_eq_true, if_true, hc, pure_bind]; exact e1
      · rcases e2 y b e with q | q
        · rw [List.lookup_cons] at q
          cases hb : y == nm with
          | true => rw [hb] at q; cases q; rw [beq_iff_eq.mp hb]; exact .inr ha'
          | false => rw [hb] at q; exact .inl q
        · exact .inr q
      · rcases hy with ⟨p, hp, h1, h2⟩ | hy
        · rcases List.mem_cons.mp hp with rfl | hp
          · right
            have h1' : nm = y := h1
            rw [List.lookup_cons, ← h1']; simp
          · exact .inl ⟨p, hp, h1, h2⟩
        · right
          rw [List.lookup_cons]
          split
          · rfl
          · exact hy
    · have hk' : (k == NameKind.free) = false := beq_eq_false_iff_ne.mpr hk
      obtain ⟨cl, e1, e2, e3⟩ := closure_of env r acc hr
      refine ⟨cl, ?_, e2, fun y hy => e3 y ?_⟩
      · simp only [hk', Bool.false_eq_true, if_false, pure_bind]; exact e1
      · rcases hy with ⟨p, hp, h1, h2⟩ | hy
        · rcases List.mem_cons.mp hp with rfl | hp
          · exact absurd h2 hk
          · exact .inl ⟨p, hp, h1, h2⟩
        · exact .inr hy

theorem closureFor_of {scope : Scope} {env : Env} (h : ∀ x ∈ scope.names, x.2 = .free → (env.cells.lookup x.1).isSome = true) :
    ∃ cl, closureFor scope env = pure cl ∧ (∀ y a, cl.lookup y = some a → env.cells.lookup y = some a) ∧ (∀ y, (y, NameKind.free) ∈ scope.names → (cl.lookup y).isSome = true) := by
  obtain ⟨cl, e1, e2, e3⟩ := closure_of env scope.names [] h
  refine ⟨cl, ?_, fun y a e => (e2 y a e).elim (fun q => by cases q) id, fun y hy => e3 y (.inl ⟨_, hy, rfl, rfl⟩)⟩
  unfold closureFor
  have : (fun (x : Str × NameKind) (r : List (Str × Addr)) => (if (x.2 == NameKind.free) = true then (do let a ← cellOf env x.1; pure (.yield ((x.1, a) :: r))) else pure (.yield r) : Sem (ForInStep (List (Str × Addr))))) =
      (fun (x : Str × NameKind) (r : List (Str × Addr)) => match x with | (name, kind) => (if (kind == NameKind.free) = true then (do let a ← cellOf env name; pure (.yield ((name, a) :: r))) else pure (.yield r) : Sem (ForInStep (List (Str × Addr))))) := by
    funext x r; rfl
  rw [this] at e1
  first
    | exact e1
    | (simp only [bind_pure] at *; exact e1)
    | (simp only [e1, pure_bind])
end Mine
end

-- the text M8
section
open PySem PySem.Calls PySem.W PyProof.Rows
set_option maxRecDepth 100000
namespace Mine

noncomputable def testsSem (ifs : List Expr) (env : Env) : Sem Bool := forIn ifs true fun c r => if r = true then do let ok ← isTrue c env (eval c env); pure (ForInStep.yield ok) else pure (ForInStep.yield r)
noncomputable def rest1 (elt : Expr) (ifs : List Expr) (acc : Value) (env : Env) : Sem Unit := testsSem ifs env >>= fun ok => if ok = true then (eval elt env >>= fun x => call (.builtin "list.append") [acc, x] >>= fun _ => pure ()) else pure ()
theorem compTurn_1 (elt target iter : Expr) (ifs : List Expr) (scope : Scope) (pos : Pos) (it acc : Value) (env : Env) :
    compTurn (.ListComp elt [⟨target, iter, ifs, 0⟩] scope pos) 0 it acc env = (standAt iter.pos >>= fun _ => pyNext it >>= fun r => match r with
      | none => pure (.done .next)
      | some v => letOwnedTupleGo target it v >>= fun _ => assign target env v >>= fun _ => rest1 elt ifs acc env >>= fun _ => again (.compLoop (.ListComp elt [⟨target, iter, ifs, 0⟩] scope pos) 0 it acc env)) := by
  rw [compTurn_list]
  unfold rest1 testsSem
  refine bind_congr fun _ => bind_congr fun r => ?_
  cases r with
  | none => rfl
  | some v =>
    refine bind_congr fun _ => bind_congr fun _ => ?_
    rw [bind_assoc]
    refine bind_congr fun ok => ?_
    cases ok with
    | false => rfl
    | true =>
      show (eval elt env >>= fun x => call (.builtin "list.append") [acc, x] >>= fun _ => pure ()) >>= _ = (eval elt env >>= fun x => call (.builtin "list.append") [acc, x] >>= fun _ => pure ()) >>= _
      rfl

/-- the inner loop of two clauses, from the outer turn -/
noncomputable def rest2 (elt target iter : Expr) (scope : Scope) (pos : Pos) (t2 i2 : Expr) (acc : Value) (env : Env) : Sem Unit :=
  eval i2 env >>= fun x => standAt i2.pos >>= fun _ => foldedSetIterable i2 env x >>= fun x => holding [x] (pyIter x) >>= fun it2 => runOwn (.compStart (.ListComp elt [⟨target, iter, [], 0⟩, ⟨t2, i2, [], 0⟩] scope pos) 1 it2 acc env) env >>= fun _ => pure ()
theorem compTurn_2 (elt target iter t2 i2 : Expr) (scope : Scope) (pos : Pos) (it acc : Value) (env : Env) :
    compTurn (.ListComp elt [⟨target, iter, [], 0⟩, ⟨t2, i2, [], 0⟩] scope pos) 0 it acc env = (standAt iter.pos >>= fun _ => pyNext it >>= fun r => match r with
      | none => pure (.done .next)
      | some v => letOwnedTupleGo target it v >>= fun _ => assign target env v >>= fun _ => rest2 elt target iter scope pos t2 i2 acc env >>= fun _ => again (.compLoop (.ListComp elt [⟨target, iter, [], 0⟩, ⟨t2, i2, [], 0⟩] scope pos) 0 it acc env)) := by
  unfold rest2
  simp only [bind_assoc, pure_bind]
  rfl
theorem compTurn_2i (elt target iter t2 i2 : Expr) (scope : Scope) (pos : Pos) (it acc : Value) (env : Env) :
    compTurn (.ListComp elt [⟨target, iter, [], 0⟩, ⟨t2, i2, [], 0⟩] scope pos) 1 it acc env = (standAt i2.pos >>= fun _ => pyNext it >>= fun r => match r with
      | none => pure (.done .next)
      | some v => letOwnedTupleGo t2 it v >>= fun _ => assign t2 env v >>= fun _ => rest1 elt [] acc env >>= fun _ => again (.compLoop (.ListComp elt [⟨target, iter, [], 0⟩, ⟨t2, i2, [], 0⟩] scope pos) 1 it acc env)) := by
  rfl

section
variable {prog : Program} {w : World} {A : Around} {R : Result → Shared → Prop} {s : Shared}

theorem codeAny_compLoop' {e : Expr} {d : Nat} {it acc : Value} {env : Env} {p : Pos} {target : Expr} {rest : Sem Unit} (I : Nat → Shared → Prop)
    (ht : compTurn e d it acc env = (standAt p >>= fun _ => pyNext it >>= fun r => match r with
      | none => pure (.done .next)
      | some v => letOwnedTupleGo target it v >>= fun _ => assign target env v >>= fun _ => rest >>= fun _ => again (.compLoop e d it acc env)))
    (hd : ∀ c, c = Code.compLoop e d it acc env → (model prog w).den c = (compTurn e d it acc env).onRaise (fun x => do noteFrame x env; theTreesLotGoes x)) (hu : A.under (.compLoop e d it acc env) = A) (hq : (Code.compLoop e d it acc env).quiet = true)
    (turn : ∀ n s, I n s → wpAny (model prog w) A (pyNext it) (fun r s₁ => match r with
      | none => R (.ok .next) s₁
      | some v => wpAny (model prog w) A (letOwnedTupleGo target it v) (fun _ s₂ => wpAny (model prog w) A (assign target env v) (fun _ s₃ => wpAny (model prog w) A rest (fun _ s₄ => ∃ m, m < n ∧ I m s₄) Nope s₃) Nope s₂) Nope s₁) Nope s)
    (n : Nat) (h : I n s) : codeAny (model prog w) A (.compLoop e d it acc env) R s := by
  refine codeAny_loop hq I (fun n s hI => ?_) n h
  rw [hd _ rfl, hu]
  refine wpAny_noted ?_
  rw [ht]
  refine wpAny_bind (wpAny_standAt (wpAny_bind (wpAny_mono (turn n s hI) (fun r s₁ h₁ => ?_) fun _ _ f => f.elim)))
  cases r with
  | none => exact wpAny_pure h₁
  | some v =>
    refine wpAny_bind (wpAny_mono h₁ (fun _ s₂ h₂ => wpAny_bind (wpAny_mono h₂ (fun _ s₃ h₃ => wpAny_bind (wpAny_mono h₃ (fun _ s₄ h₄ => ?_) fun _ _ f => f.elim)) fun _ _ f => f.elim)) fun _ _ f => f.elim)
    exact wpAny_pure ⟨rfl, h₄⟩

theorem codeAny_compStart' {elt : Expr} {gens : List Comprehension} {scope : Scope} {pos : Pos} {d : Nat} {it acc : Value} {env : Env} {g : Comprehension} (hg : gens[d]? = some g) (ha : g.is_async = 0)
    (h0 : codeAny (model prog w) A (.compLoop (.ListComp elt gens scope pos) d it acc env) R s)
    (h : wpAny (model prog w) A (pyIter it) (fun it' s' => codeAny (model prog w) A (.compLoop (.ListComp elt gens scope pos) d it' acc env) R s') Nope s) :
    codeAny (model prog w) A (.compStart (.ListComp elt gens scope pos) d it acc env) R s := by
  refine codeAny_of_tree ?_
  show wpAny _ A ((compStart (.ListComp elt gens scope pos) d it acc env).onRaise (fun x => do noteFrame x env; standAt theWindowsPlace)) _ _ s
  refine wpAny_notedAt ?_
  unfold compStart
  have hc : (clausesOf (.ListComp elt gens scope pos))[d]? = some g := hg
  rw [hc]
  simp only [Option.elim, ha, bne_self_eq_false, Bool.false_eq_true, if_false]
  refine wpAny_bind (wpAny_askSetting (wpAny_ite ?_))
  split
  · first
      | exact wpAny_bind (wpAny_pure (wpAny_pure (And.intro rfl h0)))
      | exact wpAny_pure (And.intro rfl h0)
  · exact wpAny_bind (wpAny_rule (wpAny_bind (wpAny_standAt (wpAny_bind (wpAny_mono h (fun it' s' h' => wpAny_pure (And.intro rfl h')) fun _ _ x => x.elim)))))
end

section
variable {K : Frag} {c : Cx} {G G' : PH} {ad : List Addr} {S : State} {s s' : Shared}

/-- b is nobody's: an iterator, a comprehension's dead frame -/
structure Junk (c : Cx) (G : PH) (ad : List Addr) (S : State) (b : Addr) : Prop where
  new : New c.s₀.heap b
  G : G b = none
  own : ¬ Own c ad S b

theorem St.walk (C : CxOk K c) (x : St c G ad S s) {wr : List Addr} {h' : Heap} {t : Nat} (hj : ∀ b ∈ wr, Junk c G ad S b) (hk : ∀ b o, b ∉ wr → s.heap.get? b = some o → h'.get? b = some o) : St c G ad S { s with heap := h', toks := t } := by
  have ke : ∀ b o, (b ∈ wr → False) → s.heap.get? b = some o → h'.get? b = some o := hk
  obtain ⟨m, ⟨o, es, ep, e, r⟩, hm⟩ := x.ns
  refine ⟨fun b o hb e => ke b o (fun q => (hj b q).new.ne e rfl) (x.keep b o hb e), fun b hb => let ⟨o, e⟩ := x.thX b hb; ⟨o, ke b o (fun q => St.notX C (hj b q).new hb) e⟩, x.le, fun b o e => ke b o (fun q => by rw [(hj b q).G] at e; cases e) (x.sub b o e), x.fresh, ?_, x.os, x.gens, ⟨m, ⟨o, es, ep, ke _ _ (fun q => (hj _ q).own (.inl rfl)) e, r⟩, hm⟩, ?_, ?_, x.offL, x.offC, ?_, x.offM, x.apart, x.len⟩
  · exact x.tab.at' fun o e => ke _ _ (fun q => (hj _ q).own (.inr (.inr (.inl rfl)))) e
  · intro u v h1 h2
    obtain ⟨a, y, h3, ⟨o, e, hd⟩, h5⟩ := x.cell u v h1 h2
    refine ⟨a, y, h3, ⟨o, ke a o (fun q => ?_) e, hd⟩, h5⟩
    rcases C.addr u a h3 with h | h
    · exact (hj a q).own (.inr (.inl h))
    · obtain ⟨o', e'⟩ := h.1; exact (hj a q).new.ne e' rfl
  · intro a ha
    obtain ⟨y, o, e, hd⟩ := x.cex a ha
    exact ⟨y, o, ke a o (fun q => (hj a q).own (.inr (.inl ha))) e, hd⟩
  · intro k m hk'
    exact (x.mt k m hk').kept (fun ha a e o => ke a o (fun q => (hj a q).own (.inr (.inr (.inr ⟨k, m, hk', ha, e⟩))))) (fun _ _ e => e) fun _ _ e => e

theorem Stp.walk {wr : List Addr} {h' : Heap} {t : Nat} (hk : ∀ b o, b ∉ wr → s.heap.get? b = some o → h'.get? b = some o) : Stp wr c G ad S s G ad S { s with heap := h', toks := t } :=
  ⟨fun b o e _ h => hk b o h e, fun _ h => .inl h, fun _ _ e => e, fun _ _ e => .inl e⟩

theorem Junk.stp {wr : List Addr} {ad' : List Addr} {S' : State} {b : Addr} (x : Junk c G ad S b) (t : Stp wr c G ad S s G' ad' S' s') (hb : ∃ o, s.heap.get? b = some o) (hw : b ∉ wr) : Junk c G' ad' S' b := by
  obtain ⟨o, e⟩ := hb
  refine ⟨x.new, ?_, fun q => (t.own b q).elim x.own fun q => q.elim hw fun z => z.ne e rfl⟩
  cases q : G' b with
  | none => rfl
  | some o' => exact (t.fr b o' q).elim (fun z => by rw [x.G] at z; cases z) fun z => z.elim (fun z => (x.own z).elim) fun z => z.elim (fun z => (hw z).elim) fun z => (z.ne e rfl).elim
theorem St.more (x : St c G ad S s) (le : PLe G G') (sub : PSub G' s.heap) (fr : ∀ b o, G' b = some o → G b = some o ∨ (New c.s₀.heap b ∧ ¬ Own c ad S b)) : St c G' ad S s := by
  have off : ∀ b, Own c ad S b → G b = none → G' b = none := fun b ho e => by
    cases q : G' b with
    | none => rfl
    | some o => exact (fr b o q).elim (fun z => by rw [e] at z; cases z) fun z => (z.2 ho).elim
  obtain ⟨m, hn, hm⟩ := x.ns
  refine ⟨x.keep, x.thX, fun b o e => le b o (x.le b o e), sub, fun b o e => (fr b o e).elim (x.fresh b o) fun h => .inr h.1, x.tab.mono le, x.os, x.gens, ⟨m, hn, fun y v h1 h2 => let ⟨z, h3, h4⟩ := hm y v h1 h2; ⟨z, h3, h4.mono le⟩⟩, fun y v h1 h2 => let ⟨a, z, h3, h4, h5⟩ := x.cell y v h1 h2; ⟨a, z, h3, h4, h5.mono le⟩, x.cex, off _ (.inl rfl) x.offL, fun a ha => off _ (.inr (.inl ha)) (x.offC a ha), fun k m hk => (x.mt k m hk).kept (fun _ _ _ o e => e) le fun _ _ e => e, fun k m a hk ha e => ?_, x.apart, x.len⟩
  obtain ⟨h1, h2, h3, h4⟩ := x.offM k m a hk ha e
  exact ⟨off _ (.inr (.inr (.inr ⟨k, m, hk, ha, e⟩))) h1, h2, h3, h4⟩
theorem St.ownThere (x : St c G ad S s) {b : Addr} (h : Own c ad S b) : ∃ o, s.heap.get? b = some o := by
  rcases h with h | h | h | ⟨k, m, h1, h2, h3⟩
  · obtain ⟨m, ⟨o, _, _, e, _⟩, _⟩ := x.ns; exact ⟨o, h ▸ e⟩
  · obtain ⟨_, o, e, _⟩ := x.cex b h; exact ⟨o, e⟩
  · obtain ⟨ps, e, _⟩ := x.tab; exact ⟨_, h ▸ e⟩
  · exact (x.mt k m h1).there h2 h3
/-- a turn of a walk: junk is turned, G is grown -/
theorem St.walkG (C : CxOk K c) (x : St c G ad S s) {wr : List Addr} {h' : Heap} {t : Nat} (hj : ∀ b ∈ wr, Junk c G ad S b) (hk : ∀ b o, b ∉ wr → s.heap.get? b = some o → h'.get? b = some o) (le : PLe G G') (sub : PSub G' h') (fr : ∀ b o, G' b = some o → G b = some o ∨ New s.heap b) :
    St c G' ad S { s with heap := h', toks := t } :=
  (x.walk C hj hk).more le sub fun b o e => (fr b o e).elim .inl fun z => .inr ⟨x.new z, fun q => by obtain ⟨o', e'⟩ := x.ownThere q; exact z.ne e' rfl⟩
theorem Stp.walkG {wr : List Addr} {h' : Heap} {t : Nat} (hk : ∀ b o, b ∉ wr → s.heap.get? b = some o → h'.get? b = some o) (le : PLe G G') (fr : ∀ b o, G' b = some o → G b = some o ∨ New s.heap b) : Stp wr c G ad S s G' ad S { s with heap := h', toks := t } :=
  ⟨fun b o e _ h => hk b o h e, fun _ h => .inl h, le, fun b o e => (fr b o e).elim .inl fun z => .inr (.inr (.inr z))⟩
theorem Junk.more {b : Addr} (x : Junk c G ad S b) (hb : ∃ o, s.heap.get? b = some o) (fr : ∀ b o, G' b = some o → G b = some o ∨ New s.heap b) : Junk c G' ad S b := by
  refine ⟨x.new, ?_, x.own⟩
  cases q : G' b with
  | none => rfl
  | some o => exact (fr b o q).elim (fun z => by rw [x.G] at z; cases z) fun z => let ⟨_, e⟩ := hb; (z.ne e rfl).elim
end
end Mine
end

-- the text M9
section
open PySem PySem.Calls PySem.W PyProof.Rows
set_option maxRecDepth 100000
namespace Mine

noncomputable def setAll (upd : List (Str × D)) (S : State) : State := upd.foldl (fun S p => S.set p.1 (.d p.2)) S
theorem setAll_muts : ∀ (upd : List (Str × D)) (S : State), (setAll upd S).muts = S.muts
  | [], _ => rfl
  | p :: r, S => (setAll_muts r (S.set p.1 (.d p.2))).trans rfl
theorem setAll_get : ∀ (upd : List (Str × D)) (S : State) (y : Str) (v : V), ((upd.reverse.map fun p => (p.1, V.d p.2)).lookup y = some v → (setAll upd S).get y = some v) ∧ ((upd.reverse.map fun p => (p.1, V.d p.2)).lookup y = none → (setAll upd S).get y = S.get y)
  | [], _, _, _ => ⟨(fun h => nomatch h), fun _ => rfl⟩
  | p :: r, S, y, v => by
    have ih := setAll_get r (S.set p.1 (.d p.2)) y v
    have e : (((p :: r).reverse.map fun p => (p.1, V.d p.2)) : List (Str × V)) = (r.reverse.map fun p => (p.1, V.d p.2)) ++ [(p.1, V.d p.2)] := by simp
    rw [e, List.lookup_append]
    show ((_ → (setAll r (S.set p.1 (.d p.2))).get y = _) ∧ (_ → (setAll r (S.set p.1 (.d p.2))).get y = _))
    cases q : (r.reverse.map fun p => (p.1, V.d p.2)).lookup y with
    | some u =>
      refine ⟨fun h => ih.1 (by rw [q]; simpa using h), fun h => by simp at h⟩
    | none =>
      rw [ih.2 q, State.get_set]
      by_cases hy : y = p.1
      · subst hy; simp
      · have : (y == p.1) = false := beq_eq_false_iff_ne.mpr hy
        simp [List.lookup_cons, this, hy]

/-- an assignment to a target -/
noncomputable def Binds (prog : Program) (w : World) (K : Frag) (n : Nat) (sx : Sx) (target : Expr) (item : D) (upd : List (Str × D)) : Prop :=
  ∀ (A : Around) (c : Cx) (G : PH) (ad : List Addr) (S : State) (s : Shared) (v : Value), Room A n → CxOk K c → c.sx = sx → St c G ad S s → Is G item v →
    wpAny (model prog w) A (assign target c.env v) (fun _ s' => ∃ G', St c G' ad (setAll upd S) s' ∧ Step c G ad S s G' ad (setAll upd S) s') Nope s

noncomputable def RestOk (prog : Program) (w : World) (K : Frag) (n : Nat) (sx : Sx) (fv : List (Str × V)) (rest : Value → Env → Sem Unit) (r : List D) : Prop :=
  ∀ (A : Around) (c : Cx) (G : PH) (Da : Addr) (acc : List V) (s : Shared) (vars : List (Str × V)), Room A n → CxOk K c → c.sx = sx → (∀ y v, fv.lookup y = some v → vars.lookup y = some v) → St c G [Da] ⟨vars, [.list acc]⟩ s → acc.length + r.length ≤ sizeLine →
    wpAny (model prog w) A (rest (.ref Da) c.env) (fun _ s' => ∃ G' vars', (∀ y v, fv.lookup y = some v → vars'.lookup y = some v) ∧ St c G' [Da] ⟨vars', [.list (acc ++ r.map V.d)]⟩ s' ∧ Step c G [Da] ⟨vars, [.list acc]⟩ s G' [Da] ⟨vars', [.list (acc ++ r.map V.d)]⟩ s') Nope s

section
variable {prog : Program} {w : World} {K : Frag} {n : Nat} {sx : Sx}

theorem binds_name {x : Str} {pos : Pos} {item : D} (hk : sx.scope.names.lookup x = some .local) : Binds prog w K n sx (.Name x pos) item [(x, item)] := by
  intro A c G ad S s v R C hsc st hv
  subst hsc
  refine wpAny_assign_Name (storeLocal (v := .d item) C st hv hk fun h' t x y => ⟨G, x, y⟩)

theorem binds_cell {x : Str} {pos : Pos} {item : D} (hk : sx.scope.names.lookup x = some .cell) (hfn : sx.fn = true) : Binds prog w K n sx (.Name x pos) item [(x, item)] := by
  intro A c G ad S s v R C hsc st hv
  subst hsc
  refine wpAny_assign_Name (storeCell (v := .d item) C st hv hk (Cx.fn_ne hfn) fun h' t x y => ⟨G, x, y⟩)

theorem evals_more {fv vars : List (Str × V)} {ms : List Mut} {e : Expr} {d : D} (h : Evals prog w K n sx ⟨fv, []⟩ e (.d d)) (hfv : ∀ y v, fv.lookup y = some v → vars.lookup y = some v) (hd : ∀ y v, fv.lookup y = some v → ∃ z, v = .d z) : Evals prog w K n sx ⟨vars, ms⟩ e (.d d) := by
  intro A c G ad s R C hsc st
  have st' : St c G [] ⟨fv, []⟩ s :=
    { st with
      ns := let ⟨m, hn, hm⟩ := st.ns; ⟨m, hn, fun y v h1 h2 => by
        obtain ⟨z, rfl⟩ := hd y v h1
        exact hm y _ (hfv y _ h1) h2⟩
      cell := fun y v h1 h2 => by
        obtain ⟨z, rfl⟩ := hd y v h1
        exact st.cell y _ (hfv y _ h1) h2
      mt := fun k m h => nomatch h
      offM := fun k m a h => nomatch h
      apart := fun j k m m' a h => nomatch h
      len := rfl }
  exact h A c G [] s R C hsc st'
theorem tests_more {fv vars : List (Str × V)} {ms : List Mut} {e : Expr} {d : Bool} (h : Tests prog w K n sx ⟨fv, []⟩ e d) (hfv : ∀ y v, fv.lookup y = some v → vars.lookup y = some v) (hd : ∀ y v, fv.lookup y = some v → ∃ z, v = .d z) : Tests prog w K n sx ⟨vars, ms⟩ e d := by
  intro A c G ad s R C hsc st
  have st' : St c G [] ⟨fv, []⟩ s :=
    { st with
      ns := let ⟨m, hn, hm⟩ := st.ns; ⟨m, hn, fun y v h1 h2 => by
        obtain ⟨z, rfl⟩ := hd y v h1
        exact hm y _ (hfv y _ h1) h2⟩
      cell := fun y v h1 h2 => by
        obtain ⟨z, rfl⟩ := hd y v h1
        exact st.cell y _ (hfv y _ h1) h2
      mt := fun k m h => nomatch h
      offM := fun k m a h => nomatch h
      apart := fun j k m m' a h => nomatch h
      len := rfl }
  exact h A c G [] s R C hsc st'

/-- the element is appended -/
theorem append_ok {A : Around} {c : Cx} {G : PH} {Da : Addr} {acc : List V} {s : Shared} {vars : List (Str × V)} {x : Value} {d : D} {Q : Value → Shared → Prop} (C : CxOk K c) (st : St c G [Da] ⟨vars, [.list acc]⟩ s) (hx : Is G d x) (hz : acc.length ≤ sizeLine)
    (h : ∀ s', St c G [Da] ⟨vars, [.list (acc ++ [V.d d])]⟩ s' → Step c G [Da] ⟨vars, [.list acc]⟩ s G [Da] ⟨vars, [.list (acc ++ [V.d d])]⟩ s' → Q .none s') : wpAny (model prog w) A (call (.builtin "list.append") [.ref Da, x]) Q Nope s := by
  obtain ⟨a, vs, ea, hl, hv⟩ := st.mt 0 _ rfl
  cases ea
  have hsz : vs.size ≤ sizeLine := by have := hv.length; simp at this; exact (lin [_, _, _] (.v 0) (.v 1) (.s 1 (.v 2) (.v 1) (.e 1 0 (.v 0) (.v 2) .z)) rfl hz this)
  refine wpAny_list_append_plain hl (fun h' hl' hs => ?_) hsz
  have st' := st.turn C (k := 0) (a := Da) (l := acc) (l' := acc ++ [V.d d]) (h' := h') (t := s.toks) (vs' := vs.push x) rfl rfl hl' hs (by rw [Array.toList_push]; exact hv.append (.cons hx .nil))
  refine h _ st' (step_same hs (.inr (.inr (.inr ⟨0, _, rfl, trivial, rfl⟩))) fun b q => ?_)
  rcases q with q | q | q | ⟨k, m, h1, h2, h3⟩
  · exact .inl q
  · exact .inr (.inl q)
  · exact .inr (.inr (.inl q))
  · cases k with
    | zero => exact .inr (.inr (.inr ⟨0, _, rfl, trivial, h3⟩))
    | succ k => cases h1

theorem rest1_ok {fv : List (Str × V)} {elt : Expr} {e : D} (he : Evals prog w K n sx ⟨fv, []⟩ elt (.d e)) (hd : ∀ y v, fv.lookup y = some v → ∃ z, v = .d z) : RestOk prog w K n sx fv (fun acc env => rest1 elt [] acc env) [e] := by
  intro A c G Da acc s vars R C hsc hfv st hz
  unfold rest1 testsSem
  refine wpAny_bind (wpAny_tests_nil ?_)
  simp only [if_true]
  refine wpAny_bind (wpg (evals_more he hfv hd A c G [Da] s R C hsc st) fun x s₁ G₁ g₁ e₁ => ?_)
  refine wpAny_bind (append_ok C (st.step C g₁) e₁ (by simp at hz; exact (lin [_, _] (.v 0) (.v 1) (.s 1 (.a (.v 0) (.n 1)) (.v 1) .z) rfl hz)) fun s' st' t => ?_)
  exact wpAny_pure ⟨G₁, vars, hfv, st', g₁.step.trans t⟩
theorem rest1_yes {fv : List (Str × V)} {elt test : Expr} {e : D} (ht : Tests prog w K n sx ⟨fv, []⟩ test true) (he : Evals prog w K n sx ⟨fv, []⟩ elt (.d e)) (hd : ∀ y v, fv.lookup y = some v → ∃ z, v = .d z) : RestOk prog w K n sx fv (fun acc env => rest1 elt [test] acc env) [e] := by
  intro A c G Da acc s vars R C hsc hfv st hz
  unfold rest1 testsSem
  refine wpAny_bind (wpAny_tests_one (wpg (tests_more ht hfv hd A c G [Da] s R C hsc st) fun b s₀ G₀ g₀ e₀ => ?_))
  subst e₀
  simp only [if_true]
  have st₀ := st.step C g₀
  refine wpAny_bind (wpg (evals_more he hfv hd A c G₀ [Da] s₀ R C hsc st₀) fun x s₁ G₁ g₁ e₁ => ?_)
  refine wpAny_bind (append_ok C (st₀.step C g₁) e₁ (by simp at hz; exact (lin [_, _] (.v 0) (.v 1) (.s 1 (.a (.v 0) (.n 1)) (.v 1) .z) rfl hz)) fun s' st' t => ?_)
  exact wpAny_pure ⟨G₁, vars, hfv, st', (g₀.trans g₁).step.trans t⟩
theorem rest1_no {fv : List (Str × V)} {elt test : Expr} (ht : Tests prog w K n sx ⟨fv, []⟩ test false) (hd : ∀ y v, fv.lookup y = some v → ∃ z, v = .d z) : RestOk prog w K n sx fv (fun acc env => rest1 elt [test] acc env) [] := by
  intro A c G Da acc s vars R C hsc hfv st hz
  unfold rest1 testsSem
  refine wpAny_bind (wpAny_tests_one (wpg (tests_more ht hfv hd A c G [Da] s R C hsc st) fun b s₀ G₀ g₀ e₀ => ?_))
  subst e₀
  simp only [Bool.false_eq_true, if_false]
  refine wpAny_pure ⟨G₀, vars, hfv, ?_, ?_⟩
  · simpa using st.step C g₀
  · simpa using g₀.step (S := ⟨vars, [.list acc]⟩) (c := c) (ad := [Da])

/-- one loop of a comprehension, from its iterator on -/
noncomputable def LoopOk (prog : Program) (w : World) (K : Frag) (n : Nat) (sx : Sx) (fv : List (Str × V)) (target e : Expr) (depth : Nat) (items : List D) (es : List D) : Prop :=
  ∀ (A : Around) (c : Cx) (G : PH) (Da : Addr) (acc : List V) (s : Shared) (vars : List (Str × V)) (I : Addr) (fp wr : List Addr) (W : Nat → Heap → Prop),
    Room A n → CxOk K c → c.sx = sx → (∀ y v, fv.lookup y = some v → vars.lookup y = some v) → St c G [Da] ⟨vars, [.list acc]⟩ s → acc.length + es.length ≤ sizeLine →
    Wk prog w A G target items I fp wr W → W 0 s.heap → (∀ b ∈ wr, Junk c G [Da] ⟨vars, [.list acc]⟩ b ∧ ∃ o, s.heap.get? b = some o) → (∀ b ∈ fp, b ∈ wr ∨ ∃ o, G b = some o) →
    codeAny (model prog w) A (.compLoop e depth (.ref I) (.ref Da) c.env) (fun r s' => r = .ok .next ∧ ∃ G' vars', (∀ y v, fv.lookup y = some v → vars'.lookup y = some v) ∧
      St c G' [Da] ⟨vars', [.list (acc ++ es.map V.d)]⟩ s' ∧ Stp wr c G [Da] ⟨vars, [.list acc]⟩ s G' [Da] ⟨vars', [.list (acc ++ es.map V.d)]⟩ s') s

theorem loop_ok {fv : List (Str × V)} {e : Expr} {depth : Nat} {p : Pos} {target : Expr} {rest : Value → Env → Sem Unit} {items : List D} {rs : List (List D)} {upd : D → List (Str × D)} (hlen : rs.length = items.length)
    (ht : ∀ it acc env, compTurn e depth it acc env = (standAt p >>= fun _ => pyNext it >>= fun r => match r with
      | none => pure (.done .next)
      | some v => letOwnedTupleGo target it v >>= fun _ => assign target env v >>= fun _ => rest acc env >>= fun _ => again (.compLoop e depth it acc env)))
    (hd : ∀ it acc env, (model prog w).den (.compLoop e depth it acc env) = (compTurn e depth it acc env).onRaise (fun x => do noteFrame x env; theTreesLotGoes x)) (hu : ∀ A it acc env, Around.under A (.compLoop e depth it acc env) = A) (hq : ∀ it acc env, (Code.compLoop e depth it acc env).quiet = true)
    (hb : ∀ (i : Nat) (d : D), items[i]? = some d → Binds prog w K n sx target d (upd d))
    (hr : ∀ (i : Nat) (d : D) (r : List D), items[i]? = some d → rs[i]? = some r → RestOk prog w K n sx (((upd d).reverse.map fun p => (p.1, V.d p.2)) ++ fv) rest r)
    (hfv : ∀ (i : Nat) (d : D) (y : Str) (v : V), items[i]? = some d → fv.lookup y = some v → ((upd d).reverse.map fun p => (p.1, V.d p.2)).lookup y = none) : LoopOk prog w K n sx fv target e depth items rs.flatten := by
  intro A c G Da acc s vars I fp wr W R C hsc hvars st hz F hW hwr hfp
  let acc' : Nat → List V := fun i => acc ++ (rs.take i).flatten.map V.d
  refine codeAny_compLoop' (fun k s' => ∃ i G' vars', k = items.length + 1 - i ∧ i ≤ items.length ∧ (∀ y v, fv.lookup y = some v → vars'.lookup y = some v) ∧ St c G' [Da] ⟨vars', [.list (acc' i)]⟩ s' ∧ W i s'.heap ∧
      Stp wr c G [Da] ⟨vars, [.list acc]⟩ s G' [Da] ⟨vars', [.list (acc' i)]⟩ s' ∧ (∀ b ∈ wr, Junk c G' [Da] ⟨vars', [.list (acc' i)]⟩ b ∧ ∃ o, s'.heap.get? b = some o)) (ht _ _ _) (fun c' h => by subst h; exact hd _ _ _) (hu _ _ _ _) (hq _ _ _) ?_ (items.length + 1)
    ⟨0, G, vars, rfl, Nat.zero_le _, hvars, by simpa [acc'] using st, hW, by simpa [acc'] using Stp.refl wr c G [Da] ⟨vars, [.list acc]⟩ s, by simpa [acc'] using hwr⟩
  rintro k s' ⟨i, G', vars', rfl, hi, hv', st', hWi, tp, hj⟩
  by_cases hlt : i < items.length
  · refine wpAny_mono (F.item i _ G' (fun v s₁ => ∃ h' tk G₁ d, s₁ = { s' with heap := h', toks := tk } ∧ PLe G' G₁ ∧ PSub G₁ h' ∧ (∀ b o, G₁ b = some o → G' b = some o ∨ New s'.heap b) ∧ W (i + 1) h' ∧ (∀ b o, b ∉ wr → s'.heap.get? b = some o → h'.get? b = some o) ∧ items[i]? = some d ∧ Is G₁ d v) hlt hWi st'.sub tp.le (fun b hb => (hj b hb).1.G) fun v h' tk G₁ d h1 h2 h3 h4 h5 h6 h7 => ⟨h', tk, G₁, d, rfl, h1, h2, h3, h4, h5, h6, h7⟩) (fun r s₁ h₁ => ?_) fun _ _ f => f
    obtain ⟨v, rfl, h₁⟩ := h₁
    dsimp only
    refine wpAny_mono h₁ (fun _ s₁' h₁ => ?_) fun _ _ f => f
    obtain ⟨h', tk, G₁, d, rfl, le₁, sub₁, fr₁, hW', hk, hd', hdv⟩ := h₁
    have st₁ : St c G₁ [Da] ⟨vars', [.list (acc' i)]⟩ { s' with heap := h', toks := tk } := st'.walkG C (fun b hb => (hj b hb).1) hk le₁ sub₁ fr₁
    have t₁ : Stp wr c G' [Da] ⟨vars', [.list (acc' i)]⟩ s' G₁ [Da] ⟨vars', [.list (acc' i)]⟩ { s' with heap := h', toks := tk } := Stp.walkG hk le₁ fr₁
    have hjm : ∀ b ∈ wr, Junk c G₁ [Da] ⟨vars', [.list (acc' i)]⟩ b := fun b hb => (hj b hb).1.more (hj b hb).2 fr₁
    refine wpg (hb i d hd' A c G₁ [Da] _ _ v R C hsc st₁ hdv) fun _ s₂ G₂ st₂ t₂ => ?_
    have hri : i < rs.length := by exact (lin [_, _, _] (.a (.v 0) (.n 1)) (.v 1) (.e 0 1 (.v 1) (.v 2) (.s 1 (.a (.v 0) (.n 1)) (.v 2) .z)) rfl hlen hlt)
    have hrr : rs[i]? = some rs[i] := by simp [hri]
    have em : (setAll (upd d) ⟨vars', [.list (acc' i)]⟩) = ⟨(setAll (upd d) ⟨vars', [.list (acc' i)]⟩).vars, [.list (acc' i)]⟩ := by
      have := setAll_muts (upd d) ⟨vars', [.list (acc' i)]⟩
      cases h : setAll (upd d) ⟨vars', [.list (acc' i)]⟩ with
      | mk vs ms => rw [h] at this; cases this; rfl
    have hfv₂ : ∀ y v, ((((upd d).reverse.map fun p => (p.1, V.d p.2)) ++ fv).lookup y = some v → (setAll (upd d) ⟨vars', [.list (acc' i)]⟩).vars.lookup y = some v) := fun y v hy => by
      have hg := setAll_get (upd d) ⟨vars', [.list (acc' i)]⟩ y v
      rw [List.lookup_append] at hy
      cases q : ((upd d).reverse.map fun p => (p.1, V.d p.2)).lookup y with
      | some u => rw [q] at hy; exact hg.1 (by rw [q]; simpa using hy)
      | none => rw [q] at hy; exact (hg.2 q).trans (hv' y v (by simpa using hy))
    have hlen' : (acc' i).length + rs[i].length ≤ sizeLine := by
      have e1 : (rs.take (i + 1)).flatten.length ≤ rs.flatten.length := by
        conv => rhs; rw [← List.take_append_drop (i + 1) rs, List.flatten_append, List.length_append]
        exact (lin [_, _] (.v 0) (.a (.v 0) (.v 1)) .z rfl)
      have e2 : (rs.take (i + 1)).flatten.length = (rs.take i).flatten.length + rs[i].length := by
        rw [List.take_add_one, hrr, List.flatten_append, List.length_append]; simp
      have e3 : (acc' i).length = acc.length + (rs.take i).flatten.length := by show (acc ++ (rs.take i).flatten.map V.d).length = _; rw [List.length_append, List.length_map]
      exact (lin [_, _, _, _, _, _, _] (.a (.v 0) (.v 1)) (.v 2) (.s 1 (.a (.v 3) (.v 4)) (.v 2) (.s 1 (.v 5) (.v 4) (.e 0 1 (.v 5) (.a (.v 6) (.v 1)) (.e 1 0 (.v 0) (.a (.v 3) (.v 6)) .z)))) rfl hz e1 e2 e3)
    rw [em] at st₂ t₂
    refine wpAny_mono (hr i d rs[i] hd' hrr A c G₂ Da (acc' i) s₂ _ R C hsc hfv₂ st₂ hlen') (fun _ s₃ ⟨G₃, vars₃, hv₃, st₃, t₃⟩ => ?_) fun _ _ f => f
    have eacc : acc' i ++ rs[i].map V.d = acc' (i + 1) := by
      simp only [acc']
      rw [List.take_add_one, hrr, List.flatten_append, List.map_append, List.append_assoc]; simp
    rw [eacc] at st₃ t₃
    have t₂₃ := t₂.trans t₃
    have hj' : ∀ b ∈ wr, ∃ o, h'.get? b = some o := F.there _ _ hW'
    refine ⟨items.length + 1 - (i + 1), by exact (lin [_, _, _, _] (.a (.v 0) (.n 1)) (.v 1) (.s 1 (.a (.v 2) (.n 1)) (.a (.v 1) (.v 3)) (.e 1 0 (.a (.v 0) (.a (.v 3) (.n 1))) (.a (.v 2) (.n 1)) .z)) rfl (subx _ _) (Nat.sub_add_cancel (lin [_, _] (.a (.v 0) (.n 1)) (.a (.v 1) (.n 1)) (.s 1 (.v 0) (.v 1) .z) rfl hi))), i + 1, G₃, vars₃, rfl, hlt, fun y v hy => hv₃ y v ?_, st₃, ?_, ?_, ?_⟩
    · rw [List.lookup_append, hfv i d y v hd' hy]; simpa using hy
    · refine F.frame _ _ _ hW' fun b hb o eo => ?_
      rcases hfp b hb with q | ⟨o₁, q⟩
      · exact t₂₃.kept b o eo (hj b q).1.own (fun z => nomatch z)
      · have q' := le₁ _ _ (tp.le _ _ q)
        have e1 := st₁.sub _ _ q'
        rw [e1] at eo; cases eo
        exact st₃.sub _ _ (t₂₃.le _ _ q')
    · exact tp.trans (t₁.trans (t₂₃.mono fun b hb => nomatch hb))
    · intro b hb
      obtain ⟨o, eo⟩ := hj' b hb
      exact ⟨(hjm b hb).stp t₂₃ ⟨o, eo⟩ (fun z => nomatch z), o, t₂₃.kept b o eo (hj b hb).1.own (fun z => nomatch z)⟩
  · have hin : i = items.length := by exact (Nat.le_antisymm hi (lin [_, _] (.v 0) (.v 1) (.s 1 (.v 0) (.v 1) .z) rfl (nlt' hlt)))
    subst hin
    refine F.done _ _ hWi fun h' tk hk => ?_
    dsimp only
    have ee : acc' items.length = acc ++ rs.flatten.map V.d := by simp only [acc', ← hlen, List.take_length]
    rw [ee] at st' tp
    refine ⟨rfl, G', vars', hv', st'.walk C (fun b hb => by have := (hj b hb).1; rw [ee] at this; exact this) hk, tp.trans (Stp.walk hk)⟩
end
end Mine
end

-- the text M10
section
open PySem PySem.Calls PySem.W PyProof.Rows
set_option maxRecDepth 100000
namespace Mine

noncomputable def relabelS (scope osc : Scope) : Scope :=
  { scope with names := scope.names.map fun (n, k) => if (k == .free && osc.kind == .function && osc.names.lookup n == some .cell) then (n, .cell) else (n, k) }
noncomputable def sxComp (sx : Sx) (scope : Scope) : Sx := ⟨relabelS scope sx.scope, sx.code, sx.qual, false⟩

theorem mapd_lookup (y : Str) : ∀ (l : List (Str × D)), (l.map fun p => (p.1, V.d p.2)).lookup y = (l.lookup y).map V.d
  | [] => rfl
  | (a, b) :: r => by
    show List.lookup y ((a, V.d b) :: (r.map fun p => (p.1, V.d p.2))) = _
    rw [List.lookup_cons, List.lookup_cons]
    cases y == a with
    | true => rfl
    | false => exact mapd_lookup y r

theorem Grow.same {X : List Addr} {G G' : PH} {s s' : Shared} {C : Addr} {h' : Heap} {t : Nat} (g : Grow X G s G' s') (hC : New s.heap C) (hG : G' C = none) (hs : Heap.SameBut C s'.heap h') : Grow X G s G' { s' with heap := h', toks := t } := by
  have ke : ∀ b o, b ≠ C → s'.heap.get? b = some o → h'.get? b = some o := fun b o hb e => (hs.2 b hb).trans e
  refine ⟨fun b o hb e => ke b o (hC.ne e) (g.keep b o hb e), fun b o e => let ⟨o', e'⟩ := g.there b o e; ⟨o', ke b o' (hC.ne e) e'⟩, g.le, fun b o e => ke b o (fun q => by rw [q, hG] at e; cases e) (g.sub b o e), g.fresh, fun t => ?_, g.os, g.gens⟩
  obtain ⟨_, e, _⟩ := id t
  exact (g.tab t).at' fun o e' => ke _ _ (hC.ne e) e'

section
variable {prog : Program} {w : World} {K : Frag} {n : Nat} {sx : Sx} {S : State}

/-- the end of a comprehension: its list stands, its frame is dead -/
noncomputable def CompEnd (c : Cx) (G : PH) (s : Shared) (es : List D) (C : Addr) (acc : Value) (s' : Shared) : Prop :=
  ∃ G' m, Grow [tabA] G s G' s' ∧ Is G' (.list es) acc ∧ s'.heap.Ns C m ∧ New s.heap C ∧ G' C = none

set_option tactic.hygienic true in
theorem comp_core {elt target iter : Expr} {ifs : List Expr} {gs : List Comprehension} {scope : Scope} {pos : Pos} {fv : List (Str × D)} {items es : List D} {use : Option (Value → Sem Unit)} {A : Around} {c : Cx} {G : PH} {ad : List Addr} {s : Shared} {Q : Value → Shared → Prop}
    (hs : ∀ env x, foldedSetIterable iter env x = pure x) (hkind : scope.kind = .function) (hcell : ∀ y ∈ scope.names, y.2 ≠ .cell)
    (hnames : ∀ y ∈ scope.names, y.2 = .local → scope.names.lookup y.1 = some .local)
    (hfree : ∀ y ∈ scope.names, y.2 = .free → (fv.lookup y.1).isSome = true)
    (hfv : ∀ y d, fv.lookup y = some d → S.get y = some (.d d) ∧ (sx.scope.names.lookup y = some .cell ∨ sx.scope.names.lookup y = some .free) ∧ scope.names.lookup y = some .free)
    (hsrc : Src prog w K n sx S target iter items)
    (hloop : LoopOk prog w K n (sxComp sx scope) (fv.map fun p => (p.1, V.d p.2)) target (.ListComp elt (⟨target, iter, ifs, 0⟩ :: gs) scope pos) 0 items es) (hlen : es.length ≤ sizeLine)
    (R : Room A n) (C : CxOk K c) (hsc : c.sx = sx) (st : St c G ad S s)
    (hQ : ∀ acc C' s', CompEnd c G s es C' acc s' → compPost (model prog w) A Nope use Q acc C' (.ok .next) s') :
    wpAny (model prog w) A (comprehension (.ListComp elt (⟨target, iter, ifs, 0⟩ :: gs) scope pos) scope c.env (firstIterPos (⟨target, iter, ifs, 0⟩ :: gs) pos) (newList []) false (eval iter c.env) use) Q Nope s := by
  subst hsc
  have hcl := closureFor_of (scope := scope) (env := c.env) (fun y hy hf => by
    obtain ⟨d, hd⟩ := Option.isSome_iff_exists.mp (hfree y hy hf)
    obtain ⟨h1, h2, _⟩ := hfv y.1 d hd
    obtain ⟨a, _, h3, _⟩ := st.cell y.1 _ h1 h2
    rw [h3]; rfl)
  obtain ⟨cl, hclos, hcl1, hcl2⟩ := hcl
  refine wpAny_comprehension_free (cl := cl) rfl (hs c.env) hclos hkind hnames (wpAny_mono (hsrc A c G ad s R C rfl st) (fun x sm ⟨G₁, s₁, g₁, _, hp⟩ => ?_) fun _ _ f => f)
  have st₁ := st.step C g₁
  refine wpAny_mono hp (fun it s₂ h₂ => ?_) fun _ _ f => f
  obtain ⟨I, fp, wr, W, rfl, F, hW, same, hwr, hfp⟩ := h₂
  refine wpAny_newObj_type (wpAny_newFunctionEnv hcell (by intro y hy; simp at hy) (fun h₁ hns₁ hsb₁ => ?_) hkind)
  dsimp only at hns₁ hsb₁ ⊢
  generalize hH2 : s₂.heap.push { cls := .type "list", dict := none, data := .seq ([] : List Value).toArray } = H2 at hns₁ hsb₁ ⊢
  have hC : H2.objs.size = s₂.heap.objs.size + 1 := by rw [← hH2, Heap.size_push]
  have hCnew : New s₂.heap H2.objs.size := new_ge (by rw [hC]; exact Nat.le_succ _)
  have hDnew : New s₂.heap s₂.heap.objs.size := new_size _
  have hDC : s₂.heap.objs.size ≠ H2.objs.size := by rw [hC]; exact Nat.ne_of_lt (Nat.lt_succ_self _)
  have k12 : ∀ b o, s₁.heap.get? b = some o → s₂.heap.get? b = some o := same.keep
  have k2h : ∀ b o, s₂.heap.get? b = some o → h₁.get? b = some o := fun b o e => hsb₁.extBut b o (hCnew.ne e) (Heap.get?_push_of_some _ (hH2 ▸ Heap.get?_push_of_some _ e))
  have kk : ∀ b o, s₁.heap.get? b = some o → h₁.get? b = some o := fun b o e => k2h b o (k12 b o e)
  have new1 : ∀ b, New s₂.heap b → New s₁.heap b := fun b z => by
    unfold New
    cases q : s₁.heap.get? b with
    | none => rfl
    | some o => exact absurd rfl (z.ne (k12 b o q))
  have hDl : h₁.PlainList s₂.heap.objs.size #[] := ⟨0, hsb₁.extBut _ _ hDC (Heap.get?_push_of_some _ (hH2 ▸ Heap.get?_push_size _ rfl))⟩
  have gnone : ∀ b, New s₁.heap b → G₁ b = none := fun b z => by
    cases q : G₁ b with
    | none => rfl
    | some o => exact absurd rfl (z.ne (st₁.sub _ _ q))
  let c' : Cx := ⟨compEnvC scope cl H2.objs.size c.env, s₁, G₁, [tabA], []⟩
  have sX : ∀ b ∈ [tabA], b ∈ c.X := fun b hb => by rw [List.mem_singleton.mp hb]; exact C.tabX
  have C' : CxOk K c' := by
    refine ⟨C.glob, C.blt, ?_, new1 _ hCnew, (fun _ h => nomatch h), (fun h => nomatch h), st₁.top C, List.mem_singleton.mpr rfl, fun b hb => ⟨st₁.thX b (sX b hb), (C.X b (sX b hb)).2⟩, fun y a e => ?_, fun y z a e e' => C.inj y z a (hcl1 y a e) (hcl1 z a e'), fun y _ h => absurd rfl h, st₁.sub, fun b hb => ?_, fun a o e => st₁.le a o (C.kg a o e)⟩
    · exact hkind
    · have e' := hcl1 y a e
      right
      rcases C.addr y a e' with h | h
      · obtain ⟨_, o, ho, _⟩ := st₁.cex a h
        exact ⟨⟨o, ho⟩, fun q => St.notX C (C.cs a h) (sX a q)⟩
      · obtain ⟨o, ho⟩ := h.1
        exact ⟨⟨o, st₁.keep a o h.2 ho⟩, fun q => h.2 (sX a q)⟩
    · show G₁ b = none
      cases q : G₁ b with
      | none => rfl
      | some o =>
        rcases st₁.fresh b o q with z | z
        · rw [C.g₀X b (sX b hb)] at z; cases z
        · obtain ⟨o', e'⟩ := (C.X b (sX b hb)).1; exact absurd rfl (z.ne e')
  let fvV : List (Str × V) := fv.map fun p => (p.1, V.d p.2)
  have fvl : ∀ y v, fvV.lookup y = some v → ∃ d, v = .d d ∧ fv.lookup y = some d := fun y v e => by
    have e' : (fv.lookup y).map V.d = some v := (mapd_lookup y fv).symm.trans e
    cases q : fv.lookup y with
    | none => rw [q] at e'; cases e'
    | some d => rw [q] at e'; cases e'; exact ⟨d, rfl, rfl⟩
  have kindf : ∀ y, scope.names.lookup y = some .free → (relabel scope c.env).names.lookup y ≠ some .local := by
    intro y hy
    show (scope.names.map fun (n, k) => if (k == NameKind.free && c.env.scope.kind == .function && c.env.kindOf n == some .cell) then (n, NameKind.cell) else (n, k)).lookup y ≠ _
    revert hy
    generalize scope.names = l
    induction l with
    | nil => intro hy; cases hy
    | cons p r ih =>
      intro hy
      obtain ⟨nm, k⟩ := p
      simp only [List.map_cons]
      cases hb : y == nm with
      | true =>
        simp only [List.lookup_cons, hb] at hy
        cases hy
        split <;> (simp only [List.lookup_cons, hb]; intro q; cases q)
      | false =>
        simp only [List.lookup_cons, hb] at hy
        split <;> (simp only [List.lookup_cons, hb]; exact ih hy)
  have st' : St c' G₁ [s₂.heap.objs.size] ⟨fvV, [.list []]⟩ { s₂ with heap := h₁, toks := s₂.toks + ([] : List (Str × Value)).length } := by
    refine ⟨fun b o _ e => kk b o e, fun b hb => let ⟨o, e⟩ := st₁.thX b (sX b hb); ⟨o, kk b o e⟩, fun _ _ e => e, fun b o e => kk b o (st₁.sub b o e), fun _ _ e => .inl e, st₁.tab.keeps kk, same.os, by show AllBare s₂.gens; rw [same.gens]; exact st₁.gens, ⟨_, hns₁, ?_⟩, ?_, (fun _ h => nomatch h), gnone _ (new1 _ hCnew), (fun _ h => nomatch h), ?_, ?_, ?_, rfl⟩
    · intro y v h1 h2
      obtain ⟨d, rfl, e⟩ := fvl y v h1
      exact absurd h2 (kindf y (hfv y d e).2.2)
    · intro y v h1 h2
      obtain ⟨d, rfl, e⟩ := fvl y v h1
      obtain ⟨q1, q2, q3⟩ := hfv y d e
      obtain ⟨a, z, h3, ⟨o, h4, hd⟩, h5⟩ := st₁.cell y _ q1 q2
      have hm : (y, NameKind.free) ∈ scope.names := mem_of_lookup q3
      obtain ⟨a', ha'⟩ := Option.isSome_iff_exists.mp (hcl2 y hm)
      have := hcl1 y a' ha'
      rw [h3] at this; cases this
      exact ⟨a, z, ha', ⟨o, kk _ _ h4, hd⟩, h5⟩
    · intro k m hk
      cases k with
      | zero => cases hk; exact ⟨_, #[], rfl, hDl, .nil⟩
      | succ k => cases hk
    · intro k m a hk ha e
      cases k with
      | zero =>
        cases e
        exact ⟨gnone _ (new1 _ hDnew), hDC, (fun h => nomatch h), new1 _ hDnew⟩
      | succ k => cases hk
    · intro j k m m' a hj hk _ _ _ _
      cases j with
      | zero => cases k with
        | zero => rfl
        | succ k => cases hk
      | succ j => cases hj
  have hW' : W 0 h₁ := F.frame 0 _ _ hW fun b hb o e => k2h b o e
  have hj : ∀ b ∈ wr, Junk c' G₁ [s₂.heap.objs.size] ⟨fvV, [.list []]⟩ b ∧ ∃ o, h₁.get? b = some o := fun b hb => by
    obtain ⟨o, eo⟩ := F.there 0 _ hW b hb
    refine ⟨⟨hwr b hb, gnone _ (hwr b hb), fun q => ?_⟩, o, k2h b o eo⟩
    rcases q with q | q | q | ⟨k, m, h1, h2, h3⟩
    · exact hCnew.ne eo q
    · cases q
    · obtain ⟨ps, e', _⟩ := st₁.tab; exact (hwr b hb).ne (q ▸ e') rfl
    · cases k with
      | zero => cases h3; exact hDnew.ne eo rfl
      | succ k => cases h1
  have loop := hloop A c' G₁ s₂.heap.objs.size [] _ fvV I fp wr W R C' rfl (fun _ _ e => e) st' (by simpa using hlen) F hW' hj (fun b hb => (hfp b hb).elim .inl fun ⟨o, _, e⟩ => .inr ⟨o, e⟩)
  have loop' : codeAny (model prog w) A (.compLoop (.ListComp elt (⟨target, iter, ifs, 0⟩ :: gs) scope pos) 0 (.ref I) (.ref s₂.heap.objs.size) c'.env) (compPost (model prog w) A Nope use Q (.ref s₂.heap.objs.size) H2.objs.size) { s₂ with heap := h₁, toks := s₂.toks + ([] : List (Str × Value)).length } := by
    refine codeAny_mono loop fun r s' h => ?_
    obtain ⟨rfl, G', vars', _, y, _⟩ := h
    obtain ⟨m, hm, _⟩ := y.ns
    obtain ⟨a, vs, ea, ⟨k, ho'⟩, hv⟩ := y.mt 0 _ rfl
    cases ea
    obtain ⟨o, ho, hc, hd⟩ : ∃ o, s'.heap.get? s₂.heap.objs.size = some o ∧ o.cls = .type "list" ∧ o.data = .seq vs k := ⟨_, ho', rfl, rfl⟩
    have gD : G' s₂.heap.objs.size = none := (y.offM 0 _ _ rfl trivial rfl).1
    have le2 : PLe G' (G'.put s₂.heap.objs.size o) := fun b o' e => by
      unfold PH.put
      by_cases hb : b = s₂.heap.objs.size
      · subst hb; rw [gD] at e; cases e
      · rw [if_neg hb]; exact e
    refine hQ _ _ s' ⟨G'.put s₂.heap.objs.size o, m, g₁.trans ⟨fun b o' hb e => y.keep b o' hb e, fun b o' e => ?_, fun b o' e => le2 b o' (y.le b o' e), fun b o' e => ?_, fun b o' e => ?_, fun _ => y.tab.mono le2, y.os, fun _ => y.gens⟩, ?_, hm, ?_, ?_⟩
    · by_cases hb : b ∈ c'.X
      · exact y.thX b hb
      · exact ⟨o', y.keep b o' hb e⟩
    · unfold PH.put at e
      split at e
      · rename_i hb; subst hb; cases e; exact ho
      · exact y.sub b o' e
    · unfold PH.put at e
      split at e
      · rename_i hb; subst hb; exact .inr (new1 _ hDnew)
      · exact y.fresh b o' e
    · exact .list (PH.put_self _ _ _) hc hd ((isL_of_isVL (by simpa using hv)).mono le2)
    · unfold New
      cases q : s.heap.get? H2.objs.size with
      | none => rfl
      | some o' =>
        obtain ⟨o'', e'⟩ := g₁.there _ _ q
        exact absurd rfl ((new1 _ hCnew).ne e')
    · unfold PH.put
      rw [if_neg (Ne.symm hDC)]
      exact y.offL
  refine codeAny_compStart' (g := ⟨target, iter, ifs, 0⟩) rfl rfl loop' (F.self 0 _ _ hW' loop')

theorem ev_comp {elt target iter : Expr} {ifs : List Expr} {gs : List Comprehension} {scope : Scope} {pos : Pos} (fv : List (Str × D)) {items es : List D}
    (hsrc : Src prog w K n sx S target iter items)
    (hloop : LoopOk prog w K n (sxComp sx scope) (fv.map fun p => (p.1, V.d p.2)) target (.ListComp elt (⟨target, iter, ifs, 0⟩ :: gs) scope pos) 0 items es) (hlen : es.length ≤ sizeLine)
    (hkind : scope.kind = .function) (hcell : ∀ y ∈ scope.names, y.2 ≠ .cell)
    (hnames : ∀ y ∈ scope.names, y.2 = .local → scope.names.lookup y.1 = some .local)
    (hfree : ∀ y ∈ scope.names, y.2 = .free → (fv.lookup y.1).isSome = true)
    (hfv : ∀ y d, fv.lookup y = some d → S.get y = some (.d d) ∧ (sx.scope.names.lookup y = some .cell ∨ sx.scope.names.lookup y = some .free) ∧ scope.names.lookup y = some .free)
    (hs : ∀ env x, foldedSetIterable iter env x = pure x := by intro _ _; rfl) :
    Evals prog w K n sx S (.ListComp elt (⟨target, iter, ifs, 0⟩ :: gs) scope pos) (.d (.list es)) := by
  intro A c G ad s R C hsc st
  rw [eval_ListComp]
  refine comp_core (use := none) hs hkind hcell hnames hfree hfv hsrc hloop hlen R C hsc st fun acc C' s' h => ?_
  obtain ⟨G', m, g, hv, hn, hC, hG⟩ := h
  exact ⟨m, hn, fun h' hs' => ⟨G', g.same hC hG hs', hv⟩⟩

theorem run_assign_comp {x : Str} {pos' spos : Pos} {elt target iter : Expr} {ifs : List Expr} {gs : List Comprehension} {scope : Scope} {pos : Pos} (fv : List (Str × D)) {items es : List D} {Q : Fl → State → Prop}
    (hsrc : Src prog w K n sx S target iter items)
    (hloop : LoopOk prog w K n (sxComp sx scope) (fv.map fun p => (p.1, V.d p.2)) target (.ListComp elt (⟨target, iter, ifs, 0⟩ :: gs) scope pos) 0 items es) (hlen : es.length ≤ sizeLine)
    (hk : sx.scope.names.lookup x = some .local) (h : Q .next (S.set x (.d (.list es))))
    (hkind : scope.kind = .function) (hcell : ∀ y ∈ scope.names, y.2 ≠ .cell)
    (hnames : ∀ y ∈ scope.names, y.2 = .local → scope.names.lookup y.1 = some .local)
    (hfree : ∀ y ∈ scope.names, y.2 = .free → (fv.lookup y.1).isSome = true)
    (hfv : ∀ y d, fv.lookup y = some d → S.get y = some (.d d) ∧ (sx.scope.names.lookup y = some .cell ∨ sx.scope.names.lookup y = some .free) ∧ scope.names.lookup y = some .free)
    (hs : ∀ env x, foldedSetIterable iter env x = pure x := by intro _ _; rfl)
    (hsw : ∀ env : Env, env.scope = sx.scope → swapsWith (.ListComp elt (⟨target, iter, ifs, 0⟩ :: gs) scope pos) (some (.Name x pos')) spos.line env = pure true) :
    Run1 prog w K n sx S (.Assign [.Name x pos'] (.ListComp elt (⟨target, iter, ifs, 0⟩ :: gs) scope pos) spos) Q := by
  intro A c G ad s R C hsc st
  rw [exec_Assign_Name_used _ _ _ _ (hsw c.env (by rw [← hsc]; rfl))]
  refine wpAny_bind (wpAny_standAt (wpAny_bind ?_))
  show wpAny _ A (do let _ ← comprehension (.ListComp elt (⟨target, iter, ifs, 0⟩ :: gs) scope pos) scope c.env _ (newList []) false (eval iter c.env) (some (assign (.Name x pos') c.env))) _ _ s
  refine wpAny_bind (wpAny_mono (comp_core (use := some (assign (.Name x pos') c.env)) (Q := fun _ s' => Post c G ad S s Q .next s') hs hkind hcell hnames hfree hfv hsrc hloop hlen R C hsc st fun acc C' s' h => ?_) (fun _ s' hq => wpAny_pure (wpAny_pure hq)) fun _ _ e => e)
  obtain ⟨G', m, g, hv, hn, hC, hG⟩ := h
  subst hsc
  show wpAny _ A (assign (.Name x pos') c.env acc) _ _ _
  have st' := st.step C g
  refine wpAny_assign_Name ?_
  obtain ⟨mm, hmm⟩ := st'.ns
  have hLC : c.env.locals ≠ C' := by
    obtain ⟨m0, ⟨o, _, _, ho, _⟩, _⟩ := st.ns
    exact hC.ne ho
  refine wpAny_storeName_local hk hmm.1 (fun h' hn' hs' => ?_) (by rw [C.kind]; rfl)
  have st'' := st'.store (v := .d (.list es)) (t := s'.toks + 1) C hmm hn' (fun u => rfl) hs' hv hk
  have t'' : Step c G' ad S s' G' ad (S.set x (.d (.list es))) { s' with heap := h', toks := s'.toks + 1 } := step_same hs' (.inl rfl) fun b q => q.vars rfl
  refine ⟨m, hn.sameBut hs' (Ne.symm hLC), fun h'' hs'' => ?_⟩
  have j : Junk c G' ad (S.set x (.d (.list es))) C' := by
    refine ⟨st.new hC, hG, fun q => ?_⟩
    have q' := q.vars (S := S) rfl
    rcases q' with q' | q' | q' | ⟨k, mt, h1, h2, h3⟩
    · exact hLC q'.symm
    · obtain ⟨_, o, ho, _⟩ := st.cex _ q'; exact hC.ne ho rfl
    · obtain ⟨ps, ho, _⟩ := st.tab; exact hC.ne ho q'.symm
    · obtain ⟨o, ho⟩ := (st.mt k mt h1).there h2 h3; exact hC.ne ho rfl
  have kC : ∀ b o, b ∉ [C'] → h'.get? b = some o → h''.get? b = some o := fun b o hb e => (hs''.2 b (fun q => hb (List.mem_singleton.mpr q))).trans e
  refine ⟨G', ad, _, st''.walk C (wr := [C']) (h' := h'') (t := s'.toks + 1) (fun b hb => by rw [List.mem_singleton.mp hb]; exact j) kC, ?_, h⟩
  have t3 : Stp [C'] c G' ad (S.set x (.d (.list es))) { s' with heap := h', toks := s'.toks + 1 } G' ad (S.set x (.d (.list es))) { s' with heap := h'', toks := s'.toks + 1 } := Stp.walk kC
  refine Stp.mono (wr := [C']) (Stp.trans (Stp.mono (wr' := [C']) (g.step.trans t'') fun b hb => nomatch hb) t3) fun b hb => ?_
  rw [List.mem_singleton.mp hb]
  exact .inr hC
end
end Mine
end

-- the text M11
section
open PySem PySem.Calls PySem.W PyProof.Rows
set_option maxRecDepth 100000
namespace Mine

section
variable {prog : Program} {w : World} {A : Around} {R : Result → Shared → Prop} {s : Shared}
theorem codeAny_forLoop' {target it body orelse env} (I : Nat → Shared → Prop)
    (turn : ∀ n s, I n s → wpAny (model prog w) A (pyNext it) (fun r s₁ => match r with
      | none => wpAny (model prog w) A (execs orelse env) (fun f s₃ => R (.ok f) s₃) Nope s₁
      | some v => wpAny (model prog w) A (letOwnedTupleGo target it v) (fun _ s₂ => wpAny (model prog w) A (assign target env v) (fun _ s₂ => wpAny (model prog w) A (execs body env) (fun f s₃ => match f with
          | .next | .cont => ∃ m, m < n ∧ I m s₃
          | .brk => R (.ok .next) s₃
          | .ret v => R (.ok (.ret v)) s₃) Nope s₂) Nope s₂) Nope s₁) Nope s)
    (n : Nat) (h : I n s) : codeAny (model prog w) A (.forLoop target it body orelse env) R s := by
  refine codeAny_loop' rfl I (fun n s hI => ?_) n h
  show wpAny _ _ ((forTurn target it body orelse env).onRaise (fun x => do noteFrame x env; theTreesLotGoes x)) _ _ s
  refine wpAny_noted ?_
  simp only [forTurn]
  refine wpAny_bind (wpAny_standAt (wpAny_bind (wpAny_onRaise (wpAny_mono (turn n s hI) (fun r s₁ h₁ => ?_) fun _ _ f => f.elim))))
  cases r with
  | none => exact wpAny_pure (.inr ⟨rfl, codeAny_block (nope_any h₁)⟩)
  | some v =>
    refine wpAny_bind (wpAny_mono h₁ (fun _ s₂ h₂ => wpAny_bind (wpAny_mono h₂ (fun _ s₂' h₂' => wpAny_bind (wpAny_mono h₂' (fun f s₃ h₃ => ?_) fun _ _ f => f.elim)) fun _ _ f => f.elim)) fun _ _ f => f.elim)
    cases f with
    | next => exact wpAny_pure (.inl ⟨rfl, h₃⟩)
    | cont => exact wpAny_pure (.inl ⟨rfl, h₃⟩)
    | brk => exact wpAny_pure h₃
    | ret v => exact wpAny_pure h₃
end

section
variable {prog : Program} {w : World} {K : Frag} {n : Nat} {sx : Sx} {S : State} {Q : Fl → State → Prop}

/-- what a turn of a loop leads to -/
noncomputable def Turn (J : State → Prop) (Q : Fl → State → Prop) (f : Fl) (S' : State) : Prop :=
  match f with
  | .next => J S'
  | .cont => J S'
  | .brk => Q .next S'
  | .ret d => Q (.ret d) S'

theorem run_for {target iter : Expr} {body orelse : List Stmt} {pos : Pos} {items : List D} (upd : D → List (Str × D)) (J : Nat → State → Prop)
    (hsrc : Src prog w K n sx S target iter items) (hb : ∀ (i : Nat) (d : D), items[i]? = some d → Binds prog w K n sx target d (upd d)) (h0 : J 0 S)
    (hbody : ∀ (i : Nat) (d : D) (S' : State), items[i]? = some d → J i S' → Runs prog w K n sx (setAll (upd d) S') body (Turn (J (i + 1)) Q))
    (hend : ∀ S', J items.length S' → Runs prog w K n sx S' orelse Q)
    (hs : ∀ env x, foldedSetIterable iter env x = pure x := by intro _ _; rfl) : Run1 prog w K n sx S (.For target iter body orelse pos) Q := by
  intro A c G ad s R C hsc st
  refine wpAny_For (wpAny_mono (hsrc A c G ad s R C hsc st) (fun x sm ⟨G₁, s₁, g₁, _, hp⟩ => ?_) fun _ _ f => f) (hs c.env)
  have st₁ := st.step C g₁
  refine wpAny_mono hp (fun it s₂ h₂ => ?_) fun _ _ f => f
  obtain ⟨I, fp, wr, W, rfl, F, hW, same, hwr, hfp⟩ := h₂
  have st₂ : St c G₁ ad S s₂ := st₁.grow C (same.grow (X := []) st₁.sub) (fun _ h => nomatch h)
  have t₂ : Step c G₁ ad S s₁ G₁ ad S s₂ := (same.grow (X := [tabA]) st₁.sub).step
  have hj : ∀ b ∈ wr, Junk c G₁ ad S b := fun b hb => by
    have nb := hwr b hb
    refine ⟨st₁.new nb, ?_, fun q => ?_⟩
    · cases q : G₁ b with
      | none => rfl
      | some o => exact absurd rfl (nb.ne (st₁.sub _ _ q))
    · rcases q with q | q | q | ⟨k, m, h1, h2, h3⟩
      · obtain ⟨m0, ⟨o, _, _, ho, _⟩, _⟩ := st₁.ns; exact nb.ne ho q.symm
      · obtain ⟨_, o, ho, _⟩ := st₁.cex _ q; exact nb.ne ho rfl
      · obtain ⟨ps, ho, _⟩ := st₁.tab; exact nb.ne ho q.symm
      · obtain ⟨o, ho⟩ := (st₁.mt k m h1).there h2 h3; exact nb.ne ho rfl
  have tot : ∀ {G' ad' S' s'}, Stp wr c G₁ ad S s₂ G' ad' S' s' → Step c G ad S s G' ad' S' s' := fun tp =>
    g₁.step.trans (Stp.mono (wr := wr) (Stp.trans (Stp.mono (wr' := wr) t₂ fun b hb => nomatch hb) tp) fun b hb => .inr (hwr b hb))
  refine codeAny_mono (R := fun r s' => ∃ f, r = .ok f ∧ Post c G ad S s Q f s') ?_ (fun r s' h => by obtain ⟨f, rfl, p⟩ := h; exact p)
  refine codeAny_forLoop' (fun k s' => ∃ i G' ad' S', k = items.length + 1 - i ∧ i ≤ items.length ∧ J i S' ∧ St c G' ad' S' s' ∧ W i s'.heap ∧ Stp wr c G₁ ad S s₂ G' ad' S' s' ∧ ∀ b ∈ wr, Junk c G' ad' S' b) ?_ (items.length + 1)
    ⟨0, G₁, ad, S, rfl, Nat.zero_le _, h0, st₂, hW, .refl .., hj⟩
  rintro k s' ⟨i, G', ad', S', rfl, hi, hJ, st', hWi, tp, hj'⟩
  by_cases hlt : i < items.length
  · refine wpAny_mono (F.item i _ G' (fun v s₁ => ∃ h' tk G₁ d, s₁ = { s' with heap := h', toks := tk } ∧ PLe G' G₁ ∧ PSub G₁ h' ∧ (∀ b o, G₁ b = some o → G' b = some o ∨ New s'.heap b) ∧ W (i + 1) h' ∧ (∀ b o, b ∉ wr → s'.heap.get? b = some o → h'.get? b = some o) ∧ items[i]? = some d ∧ Is G₁ d v) hlt hWi st'.sub tp.le (fun b hb => (hj' b hb).G) fun v h' tk G₁ d h1 h2 h3 h4 h5 h6 h7 => ⟨h', tk, G₁, d, rfl, h1, h2, h3, h4, h5, h6, h7⟩) (fun r s₁ h₁ => ?_) fun _ _ f => f
    obtain ⟨v, rfl, h₁⟩ := h₁
    dsimp only
    refine wpAny_mono h₁ (fun _ s₁' h₁ => ?_) fun _ _ f => f
    obtain ⟨h', tk, Gw, d, rfl, le₁, sub₁, fr₁, hW', hk, hd', hdv⟩ := h₁
    have st₃ : St c Gw ad' S' { s' with heap := h', toks := tk } := st'.walkG C hj' hk le₁ sub₁ fr₁
    have t₃ : Stp wr c G' ad' S' s' Gw ad' S' { s' with heap := h', toks := tk } := Stp.walkG hk le₁ fr₁
    have hjm : ∀ b ∈ wr, Junk c Gw ad' S' b := fun b hb => (hj' b hb).more (F.there _ _ hWi b hb) fr₁
    refine wpg (hb i d hd' A c Gw ad' S' _ v R C hsc st₃ hdv) fun _ s₄ G₄ st₄ t₄ => ?_
    refine wpAny_mono (hbody i d S' hd' hJ A c G₄ ad' s₄ R C hsc st₄) (fun f s₅ p => ?_) fun _ _ f => f
    have again : ∀ {G₅ ad₅ S₅}, St c G₅ ad₅ S₅ s₅ → Step c G₄ ad' (setAll (upd d) S') s₄ G₅ ad₅ S₅ s₅ → J (i + 1) S₅ → ∃ m, m < items.length + 1 - i ∧ ∃ i' G'' ad'' S'', m = items.length + 1 - i' ∧ i' ≤ items.length ∧ J i' S'' ∧ St c G'' ad'' S'' s₅ ∧ W i' s₅.heap ∧ Stp wr c G₁ ad S s₂ G'' ad'' S'' s₅ ∧ ∀ b ∈ wr, Junk c G'' ad'' S'' b := fun {G₅ ad₅ S₅} st₅ t₅ hJ' => by
      have t₄₅ := t₄.trans t₅
      refine ⟨items.length + 1 - (i + 1), by exact (lin [_, _, _, _] (.a (.v 0) (.n 1)) (.v 1) (.s 1 (.a (.v 2) (.n 1)) (.a (.v 1) (.v 3)) (.e 1 0 (.a (.v 0) (.a (.v 3) (.n 1))) (.a (.v 2) (.n 1)) .z)) rfl (subx _ _) (Nat.sub_add_cancel (lin [_, _] (.a (.v 0) (.n 1)) (.a (.v 1) (.n 1)) (.s 1 (.v 0) (.v 1) .z) rfl hi))), i + 1, G₅, ad₅, S₅, rfl, hlt, hJ', st₅, ?_, tp.trans (t₃.trans (t₄₅.mono fun b hb => nomatch hb)), fun b hb => ?_⟩
      · refine F.frame _ _ _ hW' fun b hb o eo => ?_
        rcases hfp b hb with q | ⟨o₁, q0, q⟩
        · exact t₄₅.kept b o eo (hj' b q).own (fun z => nomatch z)
        · have q' := le₁ _ _ (tp.le _ _ q)
          have e1 := st₃.sub _ _ q'
          rw [e1] at eo; cases eo
          exact st₅.sub _ _ (t₄₅.le _ _ q')
      · exact (hjm b hb).stp t₄₅ (F.there _ _ hW' b hb) (fun z => nomatch z)
    have out : ∀ {G₅ ad₅ S₅}, Step c G₄ ad' (setAll (upd d) S') s₄ G₅ ad₅ S₅ s₅ → Step c G ad S s G₅ ad₅ S₅ s₅ := fun t₅ => tot (tp.trans (t₃.trans ((t₄.trans t₅).mono fun b hb => nomatch hb)))
    cases f with
    | next => obtain ⟨G₅, ad₅, S₅, st₅, t₅, q⟩ := p; exact again st₅ t₅ q
    | cont => obtain ⟨G₅, ad₅, S₅, st₅, t₅, q⟩ := p; exact again st₅ t₅ q
    | brk => obtain ⟨G₅, ad₅, S₅, st₅, t₅, q⟩ := p; exact ⟨_, rfl, G₅, ad₅, S₅, st₅, out t₅, q⟩
    | ret y => obtain ⟨G₅, ad₅, S₅, d', st₅, t₅, z, q⟩ := p; exact ⟨_, rfl, G₅, ad₅, S₅, d', st₅, out t₅, z, q⟩
  · have hin : i = items.length := by exact (Nat.le_antisymm hi (lin [_, _] (.v 0) (.v 1) (.s 1 (.v 0) (.v 1) .z) rfl (nlt' hlt)))
    subst hin
    refine F.done _ _ hWi fun h' tk hk => ?_
    dsimp only
    have st₃ : St c G' ad' S' { s' with heap := h', toks := tk } := st'.walk C hj' hk
    exact wpAny_mono (hend S' hJ A c G' ad' _ R C hsc st₃) (fun f s₅ p => ⟨f, rfl, p.step (tot (tp.trans (Stp.walk hk)))⟩) fun _ _ f => f

theorem run_while {test : Expr} {body orelse : List Stmt} {pos : Pos} (J : Nat → State → Prop) {k₀ : Nat} (h0 : J k₀ S)
    (turn : ∀ (k : Nat) (S' : State), J k S' → ∃ b, Tests prog w K n sx S' test b ∧ (b = true → Runs prog w K n sx S' body (Turn (fun S'' => ∃ m, m < k ∧ J m S'') Q)) ∧ (b = false → Runs prog w K n sx S' orelse Q)) : Run1 prog w K n sx S (.While test body orelse pos) Q := by
  intro A c G ad s R C hsc st
  refine wpAny_While ?_
  refine codeAny_mono (R := fun r s' => ∃ f, r = .ok f ∧ Post c G ad S s Q f s') ?_ (fun r s' h => by obtain ⟨f, rfl, p⟩ := h; exact p)
  refine codeAny_whileLoop (fun k s' => ∃ G' ad' S', J k S' ∧ St c G' ad' S' s' ∧ Step c G ad S s G' ad' S' s') ?_ k₀ ⟨G, ad, S, h0, st, .refl ..⟩
  rintro k s' ⟨G', ad', S', hJ, st', t⟩
  obtain ⟨b, ht, h1, h2⟩ := turn k S' hJ
  refine nope_any (wpg (ht A c G' ad' s' R C hsc st') fun y s₁ G₁ g₁ e₁ => ?_)
  subst e₁
  have st₁ := st'.step C g₁
  cases y with
  | true =>
    simp only [if_true]
    refine nope_any (wpAny_mono (h1 rfl A c G₁ ad' s₁ R C hsc st₁) (fun f s₅ p => ?_) fun _ _ f => f)
    have p := p.step (t.trans g₁.step)
    cases f with
    | next => obtain ⟨G₅, ad₅, S₅, st₅, t₅, m, hm, q⟩ := p; exact ⟨m, hm, G₅, ad₅, S₅, q, st₅, t₅⟩
    | cont => obtain ⟨G₅, ad₅, S₅, st₅, t₅, m, hm, q⟩ := p; exact ⟨m, hm, G₅, ad₅, S₅, q, st₅, t₅⟩
    | brk => obtain ⟨G₅, ad₅, S₅, st₅, t₅, q⟩ := p; exact ⟨_, rfl, G₅, ad₅, S₅, st₅, t₅, q⟩
    | ret y => obtain ⟨G₅, ad₅, S₅, d', st₅, t₅, z, q⟩ := p; exact ⟨_, rfl, G₅, ad₅, S₅, d', st₅, t₅, z, q⟩
  | false =>
    simp only [Bool.false_eq_true, if_false]
    exact nope_any (wpAny_mono (h2 rfl A c G₁ ad' s₁ R C hsc st₁) (fun f s₅ p => ⟨f, rfl, p.step (t.trans g₁.step)⟩) fun _ _ f => f)
end
end Mine
end

-- the text M12
section
open PySem PySem.Calls PySem.W PyProof.Rows
set_option maxRecDepth 100000
namespace Mine

/-- a text by its signs -/
noncomputable abbrev sl (l : List Nat) : Str := ⟨l.toArray⟩
theorem sl_len (l : List Nat) : (sl l).length = l.length := by show l.toArray.size = _; simp
theorem sl_app (a b : List Nat) : sl a ++ sl b = sl (a ++ b) := by
  show Str.mk _ = Str.mk _
  congr 1
  first
    | exact (List.toArray_append ..)
    | simp
theorem sl_inj {a b : List Nat} : sl a = sl b ↔ a = b := ⟨fun h => by have := congrArg (fun s : Str => s.cps.toList) h; simpa using this, fun h => by rw [h]⟩
theorem sl_beq (a b : List Nat) : (sl a == sl b) = (a == b) := by
  rw [Bool.eq_iff_iff]; simp only [beq_iff_eq]; exact sl_inj

noncomputable def clip (v : Option Int) (dflt n : Nat) : Nat := match v with
  | none => dflt
  | some i => (max 0 (min (if i < 0 then i + n else i) n)).toNat
noncomputable def slc {α : Type} (l : List α) (lo hi : Option Int) : List α := (l.drop (clip lo 0 l.length)).take (clip hi l.length l.length - clip lo 0 l.length)

set_option tactic.hygienic true in
theorem seqIndex_some {i : Int} {n j : Nat} (h : seqIndex? i n = some j) : (i < 0 ∧ -(n : Int) ≤ i ∧ (j : Int) = i + n) ∨ (0 ≤ i ∧ i < n ∧ (j : Int) = i) := by
  have e : seqIndex? i n = if (0 ≤ (if i < 0 then i + (n : Int) else i) && (if i < 0 then i + (n : Int) else i) < (n : Int)) = true then some (if i < 0 then i + (n : Int) else i).toNat else none := by
    unfold seqIndex?; simp
  rw [e] at h
  by_cases hi : i < 0
  · simp only [hi, if_true] at h
    split at h
    · rename_i q
      simp only [Bool.and_eq_true, decide_eq_true_eq] at q
      have := Option.some.inj h
      left; lia
    · exact nomatch h
  · simp only [hi, if_false] at h
    split at h
    · rename_i q
      simp only [Bool.and_eq_true, decide_eq_true_eq] at q
      have := Option.some.inj h
      right; omega
    · exact nomatch h
theorem seqIndex_nat {n j : Nat} (h : j < n) : seqIndex? (j : Int) n = some j := by
  unfold seqIndex?
  have h1 : ¬ ((j : Int) < 0) := by simp
  simp only [h1, if_false]
  rw [if_pos (by simp; exact h)]
  simp

theorem slicePick_slc (items : Array Value) (lo hi : Option Int) : (slicePick items lo hi none).toList = slc items.toList lo hi := by
  have e : sliceBounds lo hi none items.size = ((clip lo 0 items.size : Int), (clip hi items.size items.size : Int), 1) := by
    unfold sliceBounds clip
    simp only [Option.getD_none, show (1 : Int) > 0 by decide, if_true]
    congr 1
    · cases lo <;> simp only <;> simp
    · congr 1
      cases hi <;> simp only <;> simp
  unfold slicePick slc
  rw [e]
  simp only
  rw [sliceRange_one, pick_run]
  simp
set_option tactic.hygienic true in
theorem txt_slice (l : List Nat) (lo hi : Option Int) : Txt.slice (sl l) lo hi = sl (slc l lo hi) := by
  have e : Builtin.Str.strSliceIndices lo hi 1 (sl l).length = (List.range (clip hi l.length l.length - clip lo 0 l.length)).map (clip lo 0 l.length + ·) := by
    rw [sl_len]
    unfold Builtin.Str.strSliceIndices
    rw [← sliceRange_one]
    simp only [show (1 : Int) > 0 by decide, if_true]
    congr 1
    · unfold clip; cases lo <;> simp only <;> simp
    · unfold clip; cases hi <;> simp only <;> simp
  have e2 : (Builtin.Str.strSliceIndices lo hi 1 (sl l).length).filterMap ((sl l).cps[·]?) = slc l lo hi := by
    rw [e]
    exact pick_run (sl l).cps (clip lo 0 l.length) _
  unfold Txt.slice
  split
  · rename_i h
    have hl : (Builtin.Str.strSliceIndices lo hi 1 (sl l).length).length = (sl l).length := by simpa using h
    rw [e, sl_len] at hl
    simp only [List.length_map, List.length_range] at hl
    have h0 : clip lo 0 l.length = 0 ∨ l.length = 0 := by
      have : clip hi l.length l.length ≤ l.length := by unfold clip; cases hi <;> simp only <;> omega
      lia
    congr 1
    unfold slc
    rcases h0 with h0 | h0
    · rw [h0] at hl ⊢; rw [hl]; simp
    · have : l = [] := List.length_eq_zero_iff.mp h0
      subst this; simp
  · rw [e2]

section
variable {prog : Program} {w : World} {K : Frag} {n : Nat} {sx : Sx} {S : State}

theorem op_sub_int {a b : Int} : Op2 prog w n (binaryOp .Sub) (.int a) (.int b) (.int (a - b)) := by
  intro A X G s x y R sub hx hy
  obtain ⟨_, rfl⟩ := Is.inv hx; obtain ⟨_, rfl⟩ := Is.inv hy
  exact PyProof.Rows.sub_int ⟨G, (Same.toks s _).grow sub, .int _ _⟩
theorem op_div_int {a b : Int} (hb : b ≠ 0) (hs : b.natAbs < 1073741824) : Op2 prog w n (binaryOp .FloorDiv) (.int a) (.int b) (.int (a.fdiv b)) := by
  intro A X G s x y R sub hx hy
  obtain ⟨_, rfl⟩ := Is.inv hx; obtain ⟨_, rfl⟩ := Is.inv hy
  exact floordiv_int hb ⟨G, (Same.toks s _).grow sub, .int _ _⟩ (.inl (PyProof.noPylong_small hs))
theorem op_lt_int {a b : Int} : Op2 prog w n (compareOp .Lt) (.int a) (.int b) (.bool (decide (a < b))) := by
  intro A X G s x y R sub hx hy
  obtain ⟨_, rfl⟩ := Is.inv hx; obtain ⟨_, rfl⟩ := Is.inv hy
  exact lt_int ⟨G, .refl sub, .bool _⟩
theorem op_gt_int {a b : Int} : Op2 prog w n (compareOp .Gt) (.int a) (.int b) (.bool (decide (b < a))) := by
  intro A X G s x y R sub hx hy
  obtain ⟨_, rfl⟩ := Is.inv hx; obtain ⟨_, rfl⟩ := Is.inv hy
  exact gt_int ⟨G, .refl sub, .bool _⟩
theorem op_le_int {a b : Int} : Op2 prog w n (compareOp .LtE) (.int a) (.int b) (.bool (decide (a ≤ b))) := by
  intro A X G s x y R sub hx hy
  obtain ⟨_, rfl⟩ := Is.inv hx; obtain ⟨_, rfl⟩ := Is.inv hy
  exact le_int ⟨G, .refl sub, .bool _⟩
theorem op_ge_int {a b : Int} : Op2 prog w n (compareOp .GtE) (.int a) (.int b) (.bool (decide (b ≤ a))) := by
  intro A X G s x y R sub hx hy
  obtain ⟨_, rfl⟩ := Is.inv hx; obtain ⟨_, rfl⟩ := Is.inv hy
  exact ge_int ⟨G, .refl sub, .bool _⟩
theorem op_ne_str {a b : Str} : Op2 prog w n (compareOp .NotEq) (.str a) (.str b) (.bool (a != b)) := by
  intro A X G s x y R sub hx hy
  obtain ⟨_, rfl⟩ := Is.inv hx; obtain ⟨_, rfl⟩ := Is.inv hy
  exact PyProof.Rows.ne_str ⟨G, .refl sub, .bool _⟩
theorem op_le_str {a b : Str} : Op2 prog w n (compareOp .LtE) (.str a) (.str b) (.bool (!(b.cps.toList < a.cps.toList))) := by
  intro A X G s x y R sub hx hy
  obtain ⟨_, rfl⟩ := Is.inv hx; obtain ⟨_, rfl⟩ := Is.inv hy
  exact P.le_str ⟨G, .refl sub, .bool _⟩
theorem op_gt_str {a b : Str} : Op2 prog w n (compareOp .Gt) (.str a) (.str b) (.bool (b.cps.toList < a.cps.toList)) := by
  intro A X G s x y R sub hx hy
  obtain ⟨_, rfl⟩ := Is.inv hx; obtain ⟨_, rfl⟩ := Is.inv hy
  exact P.gt_str ⟨G, .refl sub, .bool _⟩

/-- a subscript: object and index given -/
noncomputable def Sub2 (prog : Program) (w : World) (n : Nat) (value slice : Expr) (a b d : D) : Prop :=
  ∀ (A : Around) (X : List Addr) (G : PH) (s : Shared) (x y : Value), Room A n → PSub G s.heap → Is G a x → Is G b y → Gives (model prog w) X A (subscriptTail value slice x y) G s d

theorem ev_sub {value slice : Expr} {pos : Pos} {a b d : D} (h1 : Evals prog w K n sx S value (.d a)) (h2 : Evals prog w K n sx S slice (.d b)) (h : Sub2 prog w n value slice a b d) : Evals prog w K n sx S (.Subscript value slice pos) (.d d) := by
  intro A c G ad s R C hsc st
  refine Subscript_ (wpg (h1 A c G ad s R C hsc st) fun x s₁ G₁ g₁ e₁ => ?_)
  refine wpg (h2 A c G₁ ad s₁ R C hsc (st.step C g₁)) fun y s₂ G₂ g₂ e₂ => ?_
  refine wpg (h A [tabA] G₂ s₂ x y R g₂.sub (Is.mono g₂.le e₁) e₂) fun z s₃ G₃ g₃ e₃ => ⟨G₃, (g₁.trans g₂).trans g₃, e₃⟩

set_option tactic.hygienic true in
theorem sub_str {value slice : Expr} {l : List Nat} {i : Int} {j ch : Nat} (hj : seqIndex? i l.length = some j) (hc : l[j]? = some ch) (hb : l.length ≤ sizeLine)
    (hs : ∀ x t i u, subscripted slice false (.str x t) (.int i u) = operate [.str x t, .int i u] (getItem (.str x t) (.int i u)) := by intro _ _ _ _; with_unfolding_all rfl) : Sub2 prog w n value slice (.str (sl l)) (.int i) (.str (sl [ch])) := by
  intro A X G s x y R sub hx hy
  obtain ⟨_, rfl⟩ := Is.inv hx; obtain ⟨_, rfl⟩ := Is.inv hy
  rename_i t u
  have hlen : (sl l).length = l.length := sl_len l
  have hlt : l.length ≤ 16777216 := by rw [sizeLine_eq] at hb; exact hb
  have hr : -(l.length : Int) ≤ i ∧ i < l.length := by
    rcases seqIndex_some hj with h | h <;> grind
  have hitem : Txt.item (sl l) i = sl [ch] := by
    unfold Txt.item Txt.charAt
    rw [hlen, hj]
    simp only [Option.bind_some]
    have : (sl l).cps[j]? = some ch := by simpa using hc
    rw [this]; rfl
  have hfit : fitsSsize i = true := by
    exact fitsSsize_of (N := 9223372036854775808) (by lia) (by lia) (Int.le_refl _)
  have := SB.item (prog := prog) (w := w) (A := A) (E := Nope) (s := s) (x := sl l) (t := t) (i := i) (u := u) (Q := fun v s' => ∃ G', Grow X G s G' s' ∧ Is G' (.str (sl [ch])) v) hfit (charAt_isSome (by rw [hlen]; exact hr.1) (by rw [hlen]; exact hr.2)) (by rw [hitem]; exact ⟨G, (Same.toks s _).grow sub, .str _ _⟩)
  obtain ⟨T, id, hl, hT, hg⟩ := this
  exact tail_any hT hl hg (hs _ _ _ _)

set_option tactic.hygienic true in
theorem sub_list {value slice : Expr} {l : List D} {i : Int} {j : Nat} {d : D} (hj : seqIndex? i l.length = some j) (hc : l[j]? = some d) (hb : l.length ≤ sizeLine)
    (hs : ∀ x i u, subscripted slice false (.ref x) (.int i u) = operate [.ref x, .int i u] (getItem (.ref x) (.int i u)) := by intro _ _ _; with_unfolding_all rfl) : Sub2 prog w n value slice (.list l) (.int i) d := by
  intro A X G s x y R sub hx hy
  obtain ⟨_, rfl⟩ := Is.inv hy
  rename_i u
  obtain ⟨a, o, vs, k, rfl, h1, h2, h3, h4⟩ := Is.inv hx
  have hl : s.heap.IsList a vs := ⟨_, sub _ _ h1, h2, _, h3⟩
  have hlen : vs.size = l.length := by have := h4.length; simpa using this
  obtain ⟨v, hv, hd⟩ := h4.get hc
  have hv' : vs[j]? = some v := by simpa using hv
  have hlt : l.length ≤ 16777216 := by rw [sizeLine_eq] at hb; exact hb
  refine tail_any hl.typeIs slot_list_getitem.lookup ?_ (hs _ _ _)
  rcases seqIndex_some hj with ⟨hn, h1', h2'⟩ | ⟨hn, h1', h2'⟩
  · exact wpAny_getItem_list_neg hl hn (by omega) (by lia  ) (by rw [hlen]; have : (i + (l.length : Int)).toNat = j := by lia  
                                                                 rw [this]; exact hv') ⟨G, .refl sub, hd⟩
  · exact wpAny_getItem_list hl hn (by lia  ) (by have : i.toNat = j := by lia  
                                                  rw [this]; exact hv') ⟨G, .refl sub, hd⟩

end
end Mine
end

-- the text M13
section
open PySem PySem.Calls PySem.W PyProof.Rows
set_option maxRecDepth 100000
namespace Mine

section
variable {prog : Program} {w : World} {K : Frag} {n : Nat} {sx : Sx} {S : State}

/-- a part of a slice -/
inductive EvPart (prog : Program) (w : World) (K : Frag) (n : Nat) (sx : Sx) (S : State) : Option Expr → Option Int → Prop
  | none : EvPart prog w K n sx S none none
  | some {e : Expr} {i : Int} : Evals prog w K n sx S e (.d (.int i)) → EvPart prog w K n sx S (some e) (some i)

theorem evPart_run {x : Option Expr} {i : Option Int} (h : EvPart prog w K n sx S x i) {A : Around} {c : Cx} {G : PH} {ad : List Addr} {s : Shared} (R : Room A n) (C : CxOk K c) (hsc : c.sx = sx) (st : St c G ad S s) :
    wpAny (model prog w) A (evalPart x c.env) (fun v s' => ∃ G', Grow [tabA] G s G' s' ∧ ((i = none ∧ v = .none) ∨ ∃ k t, i = some k ∧ v = .int k t)) Nope s := by
  cases h with
  | none => rw [evalPart_none]; exact wpAny_pure ⟨G, .refl st.sub, .inl ⟨rfl, rfl⟩⟩
  | some h =>
    rw [evalPart_some]
    refine wpg (h A c G ad s R C hsc st) fun v s' G' g e => ?_
    (first | obtain rfl := Is.inv e | obtain ⟨_, rfl⟩ := Is.inv e)
    exact ⟨G', g, .inr ⟨_, _, rfl, rfl⟩⟩

theorem slice_obj {value : Expr} {lower upper : Option Expr} {p pos : Pos} {a d : D} {lo hi : Option Int} (h1 : Evals prog w K n sx S value (.d a)) (h2 : EvPart prog w K n sx S lower lo) (h3 : EvPart prog w K n sx S upper hi)
    (h : ∀ (A : Around) (X : List Addr) (G : PH) (s : Shared) (x vl vu : Value), Room A n → PSub G s.heap → Is G a x → ((lo = none ∧ vl = .none) ∨ ∃ k t, lo = some k ∧ vl = .int k t) → ((hi = none ∧ vu = .none) ∨ ∃ k t, hi = some k ∧ vu = .int k t) →
      wpAny (model prog w) A (subscriptTail value (.Slice lower upper none p) x (.ref s.heap.objs.size)) (fun z s' => ∃ G', Grow X G s G' s' ∧ Is G' d z) Nope { s with heap := s.heap.push { cls := .type "slice", data := .fields #[vl, vu, .none] } }) :
    Evals prog w K n sx S (.Subscript value (.Slice lower upper none p) pos) (.d d) := by
  intro A c G ad s R C hsc st
  refine Subscript_ (wpg (h1 A c G ad s R C hsc st) fun x s₁ G₁ g₁ e₁ => ?_)
  have st₁ := st.step C g₁
  refine wpAny_Slice (wpg (evPart_run h2 R C hsc st₁) fun vl s₂ G₂ g₂ e₂ => ?_)
  have st₂ := st₁.step C g₂
  refine wpg (evPart_run h3 R C hsc st₂) fun vu s₃ G₃ g₃ e₃ => ?_
  rw [evalPart_none]
  refine wpAny_pure ?_
  refine wpg (h A [tabA] G₃ s₃ x vl vu R g₃.sub ((e₁.mono g₂.le).mono g₃.le) e₂ e₃) fun z s₄ G₄ g₄ e₄ => ⟨G₄, ((g₁.trans g₂).trans g₃).trans g₄, e₄⟩

set_option tactic.hygienic true in
theorem ev_slice_str {value : Expr} {lower upper : Option Expr} {p pos : Pos} {l : List Nat} {lo hi : Option Int} (h1 : Evals prog w K n sx S value (.d (.str (sl l)))) (h2 : EvPart prog w K n sx S lower lo) (h3 : EvPart prog w K n sx S upper hi) (hb : l.length ≤ sizeLine) :
    Evals prog w K n sx S (.Subscript value (.Slice lower upper none p) pos) (.d (.str (sl (slc l lo hi)))) := by
  refine slice_obj h1 h2 h3 fun A X G s x vl vu R sub hx hl hu => ?_
  obtain ⟨_, rfl⟩ := Is.inv hx
  rename_i t
  have hsz : (sl l).length ≤ sizeLine := by rw [sl_len]; exact hb
  have hk : KeptH (fun h' : Heap => ∀ b o, s.heap.get? b = some o → h'.get? b = some o) := fun h ob k b o e => Heap.get?_push_of_some _ (k b o e)
  have fin : ∀ (h' : Heap) (t' : Tok) (k : Nat), (∀ b o, s.heap.get? b = some o → h'.get? b = some o) → ∃ G', Grow X G s G' { s with heap := h', toks := k } ∧ Is G' (.str (sl (slc l lo hi))) (.str (Txt.slice (sl l) lo hi) t') := fun h' t' k kk => by
    rw [txt_slice]
    exact ⟨G, (Same.of s k kk).grow sub, .str _ _⟩
  have go : ItemOn (model prog w) A Nope (.str (sl l) t) (.ref s.heap.objs.size) (fun z s' => ∃ G', Grow X G s G' s' ∧ Is G' (.str (sl (slc l lo hi))) z) { s with heap := s.heap.push { cls := .type "slice", data := .fields #[vl, vu, .none] } } := by
    rcases hl with ⟨rfl, rfl⟩ | ⟨i, ti, rfl, rfl⟩ <;> rcases hu with ⟨rfl, rfl⟩ | ⟨j, tj, rfl, rfl⟩
    · exact SBH.sliceItem_nn hk (fun _ _ e => e) (fun h' t' k kk => fin h' t' k kk) hsz
    · exact SBH.sliceItem_ns hk (fun _ _ e => e) (fun h' t' k kk => fin h' t' k kk) hsz
    · exact SBH.sliceItem_sn hk (fun _ _ e => e) (fun h' t' k kk => fin h' t' k kk) hsz
    · exact SBH.sliceItem_ss hk (fun _ _ e => e) (fun h' t' k kk => fin h' t' k kk) hsz
  obtain ⟨T, id, hl', hT, hg⟩ := go
  exact tail_any hT hl' hg rfl

theorem slc_isL {G : PH} {l : List D} {vs : List Value} (lo hi : Option Int) (h : IsL G l vs) : IsL G (slc l lo hi) (slc vs lo hi) := by
  unfold slc
  rw [h.length]
  exact (h.drop _).take _

set_option tactic.hygienic true in
theorem ev_slice_list {value : Expr} {lower upper : Option Expr} {p pos : Pos} {l : List D} {lo hi : Option Int} (h1 : Evals prog w K n sx S value (.d (.list l))) (h2 : EvPart prog w K n sx S lower lo) (h3 : EvPart prog w K n sx S upper hi) (hb : l.length ≤ sizeLine) :
    Evals prog w K n sx S (.Subscript value (.Slice lower upper none p) pos) (.d (.list (slc l lo hi))) := by
  refine slice_obj h1 h2 h3 fun A X G s x vl vu R sub hx hl hu => ?_
  obtain ⟨a, o, vs, k, rfl, q1, q2, q3, q4⟩ := Is.inv hx
  have hlist : s.heap.IsList a vs := ⟨_, sub _ _ q1, q2, _, q3⟩
  have hlen : vs.size = l.length := by have := q4.length; simpa using this
  have pl : IsPart vl lo := by rcases hl with ⟨rfl, rfl⟩ | ⟨i, ti, rfl, rfl⟩; exact .none; exact .int _ _
  have pu : IsPart vu hi := by rcases hu with ⟨rfl, rfl⟩ | ⟨i, ti, rfl, rfl⟩; exact .none; exact .int _ _
  refine tail_any (hlist.push _).typeIs slot_list_getitem.lookup (wpAny_getItem_list_slice (hlist.push _) (Heap.IsSliceOf.new ..) pl pu .none (by simp) ?_ (by rw [hlen]; exact hb)) rfl
  have same : Same s { s with heap := (s.heap.push { cls := .type "slice", data := .fields #[vl, vu, .none] }).push { cls := .type "list", data := .seq (slicePick vs lo hi none) } } := ⟨fun b o e => Heap.get?_push_of_some _ (Heap.get?_push_of_some _ e), rfl, rfl⟩
  have hnew : New s.heap (s.heap.push { cls := .type "slice", data := .fields #[vl, vu, .none] }).objs.size := new_ge (by rw [Heap.size_push]; exact (lin [_] (.v 0) (.a (.v 0) (.n 1)) .z rfl))
  refine ⟨_, same.growPut sub hnew (Heap.get?_push_size _ rfl), .list (PH.put_self _ _ _) rfl rfl ?_⟩
  rw [slicePick_slc]
  exact (slc_isL lo hi q4).mono (PH.put_le _ sub hnew)

theorem fm_congr {α β : Type} {f g : α → Option β} : ∀ {l : List α}, (∀ x ∈ l, f x = g x) → l.filterMap f = l.filterMap g
  | [], _ => rfl
  | a :: l, h => by
    rw [List.filterMap_cons, List.filterMap_cons, h a List.mem_cons_self, fm_congr fun x hx => h x (List.mem_cons_of_mem _ hx)]
theorem range_rev_get' {α : Type} : ∀ (m : List α), ((List.range m.length).map fun k => m.length - 1 - k).filterMap (fun i => m.reverse[i]?) = m
  | [] => rfl
  | x :: m => by
    have ih := range_rev_get' m
    rw [List.filterMap_map] at ih ⊢
    rw [List.length_cons, List.range_succ_eq_map, List.filterMap_cons]
    have h0 : ((fun i => (x :: m).reverse[i]?) ∘ fun k => m.length + 1 - 1 - k) 0 = some x := by
      simp [Function.comp]
    rw [h0]
    simp only
    congr 1
    rw [List.filterMap_map]
    conv => rhs; rw [← ih]
    refine fm_congr fun k hk => ?_
    have hk' := List.mem_range.mp hk
    simp only [Function.comp, List.reverse_cons]
    rw [List.getElem?_append_left (by simp; exact (lin [_, _, _] (.a (.v 0) (.n 1)) (.v 1) (.e 1 0 (.a (.v 0) (.a (.v 2) (.n 1))) (.v 1) .z) rfl (Nat.sub_add_cancel hk')))]
    congr 1
    exact (Nat.le_antisymm (lin [_, _, _, _, _, _] (.v 0) (.v 1) (.s 1 (.v 2) (.a (.v 1) (.v 3)) (.s 1 (.v 4) (.a (.v 2) (.n 1)) (.e 1 0 (.a (.v 0) (.a (.v 3) (.n 1))) (.v 5) (.e 1 0 (.a (.v 5) (.n 1)) (.a (.v 4) (.n 1)) .z)))) rfl (subx _ _) (subx _ _) (Nat.sub_add_cancel (lin [_, _, _] (.a (.v 0) (.n 1)) (.v 1) (.s 1 (.a (.v 0) (.n 1)) (.v 2) (.s 1 (.a (.v 2) (.n 1)) (.a (.v 1) (.n 1)) .z)) rfl hk' (subx _ _))) (Nat.sub_add_cancel (lin [_] (.n 1) (.a (.v 0) (.n 1)) .z rfl))) (lin [_, _, _, _, _, _] (.v 0) (.v 1) (.s 1 (.v 2) (.a (.v 1) (.a (.v 3) (.n 1))) (.s 1 (.a (.v 4) (.n 1)) (.a (.v 2) (.n 1)) (.e 1 0 (.a (.v 0) (.v 3)) (.v 5) (.e 1 0 (.a (.v 5) (.n 1)) (.v 4) .z)))) rfl (subx _ _) (subx _ _) (Nat.sub_add_cancel (lin [_, _, _] (.v 0) (.v 1) (.s 1 (.a (.v 0) (.n 1)) (.v 2) (.s 1 (.v 2) (.a (.v 1) (.n 1)) .z)) rfl hk' (subx _ _))) (Nat.sub_add_cancel (lin [_, _] (.n 1) (.v 0) (.s 1 (.a (.v 1) (.n 1)) (.v 0) .z) rfl hk'))))
theorem range_rev_get {α : Type} (l : List α) : ((List.range l.length).map fun k => l.length - 1 - k).filterMap (fun i => l[i]?) = l.reverse := by
  have := range_rev_get' l.reverse
  simpa using this
theorem slicePick_rev (items : Array Value) : (slicePick items none none (some (-1))).toList = items.toList.reverse := by
  have e : sliceBounds none none (some (-1)) items.size = ((items.size : Int) - 1, -1, -1) := by
    unfold sliceBounds
    simp only [Option.getD_some, show ¬ ((-1 : Int) > 0) by decide, if_false]
  unfold slicePick
  rw [e]
  simp only
  have e2 : sliceRange ((items.size : Int) - 1) (-1) (-1) = (List.range items.size).map fun k => items.size - 1 - k := by
    unfold sliceRange
    simp only [show ¬ ((-1 : Int) > 0) by decide, if_false]
    have hc : (if (items.size : Int) - 1 > -1 then ((items.size : Int) - 1 - -1 - -1 - 1) / (- -1) else 0).toNat = items.size := by
      split
      · rw [show (- -1 : Int) = 1 by decide, Int.ediv_one]; simp
      · lia
    rw [hc]
    refine List.map_congr_left fun k hk => ?_
    have := List.mem_range.mp hk
    lia
  rw [e2, ← range_rev_get items.toList]
  simp
set_option tactic.hygienic true in
theorem ev_rev_list {value : Expr} {k : Nat} {p p2 p3 pos : Pos} {l : List D} (h1 : Evals prog w K n sx S value (.d (.list l))) (hb : l.length ≤ sizeLine) :
    Evals prog w K n sx S (.Subscript value (.Slice none none (some (.UnaryOp .USub (.Constant (.int 1) k p2) p3)) p) pos) (.d (.list l.reverse)) := by
  intro A c G ad s R C hsc st
  refine Subscript_ (wpg (h1 A c G ad s R C hsc st) fun x s₁ G₁ g₁ e₁ => ?_)
  refine wpAny_Slice ?_
  rw [evalPart_none]
  refine wpAny_pure ?_
  refine wpAny_pure ?_
  rw [evalPart_some]
  refine UnaryOp_ (wpAny_Constant_int ?_)
  refine neg_int ?_
  obtain ⟨a, o, vs, m, rfl, q1, q2, q3, q4⟩ := Is.inv e₁
  have hlen : vs.size = l.length := by have := q4.length; simpa using this
  have key : ∀ (s₃ : Shared) (t : Tok), PSub G₁ s₃.heap → Grow [tabA] G s G₁ s₃ → wpAny (model prog w) A (subscriptTail value (.Slice none none (some (.UnaryOp .USub (.Constant (.int 1) k p2) p3)) p) (.ref a) (.ref s₃.heap.objs.size)) (fun y s' => ∃ G', Grow [tabA] G s G' s' ∧ IsV G' ad (.d (.list l.reverse)) y) Nope { s₃ with heap := s₃.heap.push { cls := .type "slice", data := .fields #[.none, .none, .int (-1) t] } } := fun s₃ t sub g => by
    have hlist : s₃.heap.IsList a vs := ⟨_, sub _ _ q1, q2, _, q3⟩
    refine tail_any (hlist.push _).typeIs slot_list_getitem.lookup (wpAny_getItem_list_slice (hlist.push _) (Heap.IsSliceOf.new ..) .none .none (.int _ _) (by simp) ?_ (by rw [hlen]; exact hb)) rfl
    have same : Same s₃ { s₃ with heap := (s₃.heap.push { cls := .type "slice", data := .fields #[.none, .none, .int (-1) t] }).push { cls := .type "list", data := .seq (slicePick vs none none (some (-1))) } } := ⟨fun b o e => Heap.get?_push_of_some _ (Heap.get?_push_of_some _ e), rfl, rfl⟩
    have hnew : New s₃.heap (s₃.heap.push { cls := .type "slice", data := .fields #[.none, .none, .int (-1) t] }).objs.size := new_ge (by rw [Heap.size_push]; exact (lin [_] (.v 0) (.a (.v 0) (.n 1)) .z rfl))
    refine ⟨_, g.trans (same.growPut sub hnew (Heap.get?_push_size _ rfl)), ?_⟩
    refine Is.list (PH.put_self _ _ _) rfl rfl ?_
    rw [slicePick_rev]
    exact q4.reverse.mono (PH.put_le _ sub hnew)
  exact key { s₁ with toks := _ } _ g₁.sub (g₁.trans ((Same.toks s₁ _).grow g₁.sub))

/-! calls of built-ins -/
noncomputable def BCall (prog : Program) (w : World) (n : Nat) (f : Value) (ds : List D) (d : D) : Prop :=
  ∀ (A : Around) (X : List Addr) (G : PH) (s : Shared) (xs : List Value), Room A n → PSub G s.heap → IsL G ds xs → Gives (model prog w) X A (call f xs) G s d

theorem ev_bcall {id : String} {fn : Expr} {e : Expr} {args : List Expr} {pos : Pos} {ds : List D} {d : D} (hf : Evals prog w K n sx S fn (.d (.raw (.builtin id)))) (ha : EvalsL prog w K n sx S (e :: args) (ds.map V.d)) (h : BCall prog w n (.builtin id) ds d)
    (hst : ∀ env, starEach (e :: args) env = (false, eval e env) :: starEach args env := by intro _; rfl) (hplain : ∀ env, (backTo pos (starEach args env)).any (·.1) = false := by intro _; rfl)
    (he : ∀ env, eval (.Call fn (e :: args) [] pos) env = (do callWith pos (← eval fn env) [] (backTo pos (starEach (e :: args) env)) (backToKw pos (keywordEach [] env))) := by intro _; rfl) :
    Evals prog w K n sx S (.Call fn (e :: args) [] pos) (.d d) := by
  intro A c G ad s R C hsc st
  refine Call_ (wpg (hf A c G ad s R C hsc st) fun y s₁ G₁ g₁ e₁ => ?_) (he _)
  (first | obtain rfl := Is.inv e₁ | obtain ⟨_, rfl⟩ := Is.inv e₁)
  have st₁ := st.step C g₁
  refine callWith_builtin1 (wpg (ha A c G₁ ad s₁ pos R C hsc st₁) fun ys s₂ G₂ g₂ e₂ => ?_) (hst _) (hplain _)
  exact wpg (h A [tabA] G₂ s₂ ys R g₂.sub (isL_of_isVL e₂)) fun z s₃ G₃ g₃ e₃ => ⟨G₃, (g₁.trans g₂).trans g₃, e₃⟩
theorem ev_tcall {T : String} {fn : Expr} {e : Expr} {args : List Expr} {pos : Pos} {ds : List D} {d : D} (hf : Evals prog w K n sx S fn (.d (.raw (.type T)))) (ha : EvalsL prog w K n sx S (e :: args) (ds.map V.d)) (h : BCall prog w n (.type T) ds d)
    (hst : ∀ env, starEach (e :: args) env = (false, eval e env) :: starEach args env := by intro _; rfl) (hplain : ∀ env, (backTo pos (starEach args env)).any (·.1) = false := by intro _; rfl)
    (he : ∀ env, eval (.Call fn (e :: args) [] pos) env = (do callWith pos (← eval fn env) [] (backTo pos (starEach (e :: args) env)) (backToKw pos (keywordEach [] env))) := by intro _; rfl) :
    Evals prog w K n sx S (.Call fn (e :: args) [] pos) (.d d) := by
  intro A c G ad s R C hsc st
  refine Call_ (wpg (hf A c G ad s R C hsc st) fun y s₁ G₁ g₁ e₁ => ?_) (he _)
  (first | obtain rfl := Is.inv e₁ | obtain ⟨_, rfl⟩ := Is.inv e₁)
  have st₁ := st.step C g₁
  refine callWith_type1 (wpg (ha A c G₁ ad s₁ pos R C hsc st₁) fun ys s₂ G₂ g₂ e₂ => ?_) (hst _) (hplain _)
  exact wpg (h A [tabA] G₂ s₂ ys R g₂.sub (isL_of_isVL e₂)) fun z s₃ G₃ g₃ e₃ => ⟨G₃, (g₁.trans g₂).trans g₃, e₃⟩

theorem bc_len_str {l : List Nat} (hb : l.length ≤ sizeLine) : BCall prog w n (.builtin "len") [.str (sl l)] (.int l.length) := by
  intro A X G s xs R sub h
  obtain ⟨_, _, rfl, h1, h2⟩ := IsL.inv h
  obtain rfl := IsL.inv h2; obtain ⟨_, rfl⟩ := Is.inv h1
  have hlt : l.length ≤ 16777216 := by rw [sizeLine_eq] at hb; exact hb
  refine P.len_str (by rw [sl_len]; lia) ?_
  rw [sl_len]
  exact ⟨G, (Same.toks s _).grow sub, .int _ _⟩
set_option tactic.hygienic true in
theorem bc_len_list {l : List D} (hb : l.length ≤ sizeLine) : BCall prog w n (.builtin "len") [.list l] (.int l.length) := by
  intro A X G s xs R sub h
  obtain ⟨_, _, rfl, h1, h2⟩ := IsL.inv h
  obtain rfl := IsL.inv h2; obtain ⟨a, o, vs, k, rfl, q1, q2, q3, q4⟩ := Is.inv h1
  have hl : s.heap.IsList a vs := ⟨_, sub _ _ q1, q2, _, q3⟩
  have hlen : vs.size = l.length := by have := q4.length; simpa using this
  have hlt : l.length ≤ 16777216 := by rw [sizeLine_eq] at hb; exact hb
  refine call_len_list hl (by lia) ?_
  rw [hlen]
  exact ⟨G, (Same.toks s _).grow sub, .int _ _⟩
theorem bc_chr {i : Nat} (hi : i < 1114112) : BCall prog w n (.builtin "chr") [.int i] (.str (sl [i])) := by
  intro A X G s xs R sub h
  obtain ⟨_, _, rfl, h1, h2⟩ := IsL.inv h
  obtain rfl := IsL.inv h2; obtain ⟨_, rfl⟩ := Is.inv h1
  refine P.chr_of_int (by simp; lia) ?_
  exact ⟨G, (Same.toks s _).grow sub, .str _ _⟩

/-! tests -/
noncomputable def Truthy (prog : Program) (w : World) (n : Nat) (a : D) (b : Bool) : Prop :=
  ∀ (A : Around) (X : List Addr) (G : PH) (s : Shared) (x : Value), Room A n → PSub G s.heap → Is G a x → wpAny (model prog w) A (truthy x) (fun y s' => ∃ G', Grow X G s G' s' ∧ y = b) Nope s
theorem truthy_bool' {b : Bool} : Truthy prog w n (.bool b) b := by
  intro A X G s x R sub h
  obtain rfl := Is.inv h
  exact wpAny_truthy_bool ⟨G, .refl sub, rfl⟩
theorem truthy_int' {i : Int} : Truthy prog w n (.int i) (i != 0) := by
  intro A X G s x R sub h
  obtain ⟨_, rfl⟩ := Is.inv h
  exact PyProof.Rows.truthy_int ⟨G, .refl sub, rfl⟩
theorem truthy_str' {l : List Nat} (hb : l.length ≤ sizeLine) : Truthy prog w n (.str (sl l)) (!l.isEmpty) := by
  intro A X G s x R sub h
  obtain ⟨_, rfl⟩ := Is.inv h
  have hlt : l.length ≤ 16777216 := by rw [sizeLine_eq] at hb; exact hb
  refine P.truthy_str (by rw [sl_len]; lia) ⟨G, (Same.toks s _).grow sub, ?_⟩
  rw [sl_len]; cases l <;> simp
  lia
/-- a test that is a plain value -/
theorem tests_of {e : Expr} {a : D} {b : Bool} (h1 : Evals prog w K n sx S e (.d a)) (h : Truthy prog w n a b) (he : ∀ env, isTrue e env (eval e env) = (do let v ← eval e env; standAt e.pos; holding [v] (truthy v)) := by intro _; rfl) : Tests prog w K n sx S e b := by
  intro A c G ad s R C hsc st
  refine isTrue_plain (wpg (h1 A c G ad s R C hsc st) fun x s₁ G₁ g₁ e₁ => ?_) (he _)
  exact wpg (h A [tabA] G₁ s₁ x R g₁.sub e₁) fun y s₂ G₂ g₂ e₂ => ⟨G₂, g₁.trans g₂, e₂⟩
theorem tests_cmp {l r : Expr} {op : CmpOp} {pos : Pos} {a b : D} {t : Bool} (h1 : Evals prog w K n sx S l (.d a)) (h2 : Evals prog w K n sx S r (.d b)) (h : Op2 prog w n (compareOp op) a b (.bool t))
    (hm : behindInMarks op r = false := by with_unfolding_all rfl) : Tests prog w K n sx S (.Compare l [op] [r] pos) t := by
  intro A c G ad s R C hsc st
  refine wpAny_isTrue_Compare1 (wpg (h1 A c G ad s R C hsc st) fun x s₁ G₁ g₁ e₁ => ?_) hm
  refine wpg (h2 A c G₁ ad s₁ R C hsc (st.step C g₁)) fun y s₂ G₂ g₂ e₂ => ?_
  refine wpg (h A [tabA] G₂ s₂ x y R g₂.sub (Is.mono g₂.le e₁) e₂) fun z s₃ G₃ g₃ e₃ => ?_
  obtain rfl := Is.inv e₃
  exact wpAny_truthy_bool ⟨G₃, (g₁.trans g₂).trans g₃, rfl⟩
theorem tests_not {e : Expr} {pos : Pos} {b : Bool} (h : Tests prog w K n sx S e b) : Tests prog w K n sx S (.UnaryOp .Not e pos) (!b) := by
  intro A c G ad s R C hsc st
  exact isTrue_not (wpg (h A c G ad s R C hsc st) fun y s₁ G₁ g₁ e₁ => ⟨G₁, g₁, by rw [e₁]⟩)
theorem tests_and {x y : Expr} {pos : Pos} {a b : Bool} (h1 : Tests prog w K n sx S x a) (h2 : a = true → Tests prog w K n sx S y b) : Tests prog w K n sx S (.BoolOp .And [x, y] pos) (a && b) := by
  intro A c G ad s R C hsc st
  refine isTrue_and (wpg (h1 A c G ad s R C hsc st) fun q s₁ G₁ g₁ e₁ => ?_)
  subst e₁
  cases q with
  | false => exact ⟨G₁, g₁, rfl⟩
  | true =>
    simp only [if_true]
    refine isTrue_and (wpg (h2 rfl A c G₁ ad s₁ R C hsc (st.step C g₁)) fun q s₂ G₂ g₂ e₂ => ?_)
    subst e₂
    cases q with
    | false => exact ⟨G₂, g₁.trans g₂, rfl⟩
    | true => exact isTrue_and_nil ⟨G₂, g₁.trans g₂, rfl⟩
theorem tests_or {x y : Expr} {pos : Pos} {a b : Bool} (h1 : Tests prog w K n sx S x a) (h2 : a = false → Tests prog w K n sx S y b) : Tests prog w K n sx S (.BoolOp .Or [x, y] pos) (a || b) := by
  intro A c G ad s R C hsc st
  refine isTrue_or (wpg (h1 A c G ad s R C hsc st) fun q s₁ G₁ g₁ e₁ => ?_)
  subst e₁
  cases q with
  | true => exact ⟨G₁, g₁, rfl⟩
  | false =>
    simp only [Bool.false_eq_true, if_false]
    refine isTrue_or (wpg (h2 rfl A c G₁ ad s₁ R C hsc (st.step C g₁)) fun q s₂ G₂ g₂ e₂ => ?_)
    subst e₂
    cases q with
    | true => exact ⟨G₂, g₁.trans g₂, rfl⟩
    | false => exact isTrue_or_nil ⟨G₂, g₁.trans g₂, rfl⟩
theorem ev_ifexp {test body orelse : Expr} {pos : Pos} {b : Bool} {v : V} (ht : Tests prog w K n sx S test b) (h1 : b = true → Evals prog w K n sx S body v) (h2 : b = false → Evals prog w K n sx S orelse v) : Evals prog w K n sx S (.IfExp test body orelse pos) v := by
  intro A c G ad s R C hsc st
  refine IfExp_ (wpg (ht A c G ad s R C hsc st) fun q s₁ G₁ g₁ e₁ => ?_)
  subst e₁
  cases q with
  | true => exact wpg (h1 rfl A c G₁ ad s₁ R C hsc (st.step C g₁)) fun y s₂ G₂ g₂ e₂ => ⟨G₂, g₁.trans g₂, e₂⟩
  | false => exact wpg (h2 rfl A c G₁ ad s₁ R C hsc (st.step C g₁)) fun y s₂ G₂ g₂ e₂ => ⟨G₂, g₁.trans g₂, e₂⟩
theorem ev_and {x y : Expr} {pos : Pos} {a : Bool} {b : D} (h1 : Evals prog w K n sx S x (.d (.bool a))) (h2 : a = true → Evals prog w K n sx S y (.d b)) (h3 : a = false → b = .bool false) : Evals prog w K n sx S (.BoolOp .And [x, y] pos) (.d b) := by
  intro A c G ad s R C hsc st
  refine BoolOp_and (wpg (h1 A c G ad s R C hsc st) fun q s₁ G₁ g₁ e₁ => ?_)
  (first | obtain rfl := Is.inv e₁ | obtain ⟨_, rfl⟩ := Is.inv e₁)
  refine wpAny_truthy_bool ?_
  cases a with
  | true => exact BoolOp_one (wpg (h2 rfl A c G₁ ad s₁ R C hsc (st.step C g₁)) fun y s₂ G₂ g₂ e₂ => ⟨G₂, g₁.trans g₂, e₂⟩)
  | false => rw [h3 rfl]; exact ⟨G₁, g₁, .bool _⟩
theorem ev_neg {i : Int} {k : Nat} {p pos : Pos} : Evals prog w K n sx S (.UnaryOp .USub (.Constant (.int i) k p) pos) (.d (.int (-i))) := by
  intro A c G ad s R C hsc st
  refine UnaryOp_ (wpAny_Constant_int ?_)
  exact neg_int ⟨G, ((Same.toks s _).trans (Same.toks _ _)).grow st.sub, .int _ _⟩
end
end Mine
end

-- the text M14
section
open PySem PySem.Calls PySem.W PyProof.Rows
set_option maxRecDepth 100000
namespace Mine

noncomputable def isN : D → Bool | .none => true | _ => false
noncomputable def isB (a : Bool) : D → Bool | .bool b => a == b | _ => false
noncomputable def isI (a : Int) : D → Bool | .int b => a == b | _ => false
noncomputable def isS (a : Str) : D → Bool | .str b => a == b | _ => false
noncomputable def kd : D → Nat | .none => 0 | .bool _ => 1 | .int _ => 2 | .str _ => 3 | _ => 4
noncomputable def okT (a b : Nat) : Bool := (Nat.beq a b && Nat.ble a 3) || (Nat.beq (a + b) 2 && !Nat.beq a 1)
noncomputable def eqD (d x : D) : Bool := match d with | .none => isN x | .bool a => isB a x | .int a => isI a x | .str a => isS a x | _ => false
noncomputable def okD (d x : D) : Bool := okT (kd d) (kd x)
noncomputable def eqVD (v : Value) (x : D) : Bool := match v with | .none => isN x | .bool a => isB a x | .int a _ => isI a x | .str a _ => isS a x | _ => false
theorem no_ok {P : Prop} (h : false = true) : P := Bool.noConfusion h
theorem kd_of {d x : D} (h : okD d x = true) : kd d ≠ 4 := fun e => by
  have e2 : ∀ k, okT 4 k = false := fun k => by
    match k with
    | 0 => rfl
    | 1 => rfl
    | 2 => rfl
    | 3 => rfl
    | 4 => rfl
    | k + 5 => rfl
  unfold okD at h
  rw [e, e2] at h
  exact no_ok h
theorem eqVD_is {G : PH} {d x : D} {y : Value} (h : okD d x = true) (hy : Is G d y) : eqVD y x = eqD d x := by
  have k := kd_of h
  cases hy <;> first | rfl | exact absurd rfl k
theorem eqAt_is {G : PH} {A : Around} {s : Shared} {d x : D} {y z : Value} (h : okD d x = true) (hy : Is G d y) (hz : Is G x z) : SeqAt.EqAt A s y z (eqD d x) := by
  have k := kd_of h
  cases hy with
  | none => cases hz with
    | none => exact SeqAt.EqAt.same _
    | int b => exact SeqAt.EqAt.none_int _ _
    | _ => exact no_ok h
  | bool a => cases hz with
    | bool b => exact SeqAt.EqAt.bool_bool _ _
    | _ => exact no_ok h
  | int a => cases hz with
    | none => exact SeqAt.EqAt.int_none _ _
    | int b => exact SeqAt.EqAt.int_int _ _ _ _
    | _ => exact no_ok h
  | str a => cases hz with
    | str b => exact SeqAt.EqAt.str_str _ _ _ _
    | _ => exact no_ok h
  | _ => exact absurd rfl k

theorem IsL.mem {G : PH} {l : List D} {vs : List Value} (h : IsL G l vs) {y : Value} (hy : y ∈ vs) : ∃ d ∈ l, Is G d y := by
  induction l generalizing vs with
  | nil => obtain rfl := IsL.inv h; cases hy
  | cons d l ih =>
    obtain ⟨_, _, rfl, h1, h2⟩ := IsL.inv h
    rcases List.mem_cons.mp hy with rfl | hy
    · exact ⟨_, List.mem_cons_self, h1⟩
    · obtain ⟨d', e, q⟩ := ih h2 hy; exact ⟨d', List.mem_cons_of_mem _ e, q⟩
theorem any_is {G : PH} {x : D} : ∀ {l : List D} {vs : List Value}, IsL G l vs → (∀ d ∈ l, okD d x = true) → vs.any (eqVD · x) = l.any (eqD · x)
  | [], _, h, _ => by obtain rfl := IsL.inv h; rfl
  | d :: l, _, h, k => by
    obtain ⟨_, _, rfl, h1, h2⟩ := IsL.inv h
    rw [List.any_cons, List.any_cons, eqVD_is (k d List.mem_cons_self) h1, any_is h2 fun d' hd => k d' (List.mem_cons_of_mem _ hd)]

section
variable {prog : Program} {w : World} {K : Frag} {n : Nat} {sx : Sx} {S : State}

set_option tactic.hygienic true in
theorem op_in_list {x : D} {l : List D} (k : ∀ d ∈ l, okD d x = true) : Op2 prog w n (compareOp .In) x (.list l) (.bool (l.any (eqD · x))) := by
  intro A X G s z y R sub hx hy
  obtain ⟨a, o, vs, m, rfl, q1, q2, q3, q4⟩ := Is.inv hy
  have hl : s.heap.IsList a vs := ⟨_, sub _ _ q1, q2, _, q3⟩
  refine SeqAt.in_listAt (eqVD · x) hl (fun y hy => ?_) ?_
  · obtain ⟨d, hd, hdy⟩ := q4.mem (by simpa using hy)
    rw [eqVD_is (k d hd) hdy]; exact eqAt_is (k d hd) hdy hx
  · rw [← Array.any_toList, any_is q4 k]; exact ⟨G, .refl sub, .bool _⟩
set_option tactic.hygienic true in
theorem op_in_tuple {x : D} {l : List D} (k : ∀ d ∈ l, okD d x = true) : Op2 prog w n (compareOp .In) x (.tuple l) (.bool (l.any (eqD · x))) := by
  intro A X G s z y R sub hx hy
  obtain ⟨a, o, vs, m, rfl, q1, q2, q3, q4⟩ := Is.inv hy
  have hl : s.heap.IsTuple a vs := ⟨_, sub _ _ q1, q2, _, q3⟩
  refine SeqAt.in_tupleAt (eqVD · x) hl (fun y hy => ?_) ?_
  · obtain ⟨d, hd, hdy⟩ := q4.mem (by simpa using hy)
    rw [eqVD_is (k d hd) hdy]; exact eqAt_is (k d hd) hdy hx
  · rw [← Array.any_toList, any_is q4 k]; exact ⟨G, .refl sub, .bool _⟩
set_option tactic.hygienic true in
theorem op_notin_tuple {x : D} {l : List D} (k : ∀ d ∈ l, okD d x = true) : Op2 prog w n (compareOp .NotIn) x (.tuple l) (.bool (!l.any (eqD · x))) := by
  intro A X G s z y R sub hx hy
  obtain ⟨a, o, vs, m, rfl, q1, q2, q3, q4⟩ := Is.inv hy
  have hl : s.heap.IsTuple a vs := ⟨_, sub _ _ q1, q2, _, q3⟩
  refine SeqAt.notIn_tupleAt (eqVD · x) hl (fun y hy => ?_) ?_
  · obtain ⟨d, hd, hdy⟩ := q4.mem (by simpa using hy)
    rw [eqVD_is (k d hd) hdy]; exact eqAt_is (k d hd) hdy hx
  · rw [← Array.any_toList, any_is q4 k]; exact ⟨G, .refl sub, .bool _⟩
set_option tactic.hygienic true in
theorem op_eq_list_nil {l : List D} : Op2 prog w n (compareOp .Eq) (.list l) (.list []) (.bool l.isEmpty) := by
  intro A X G s z y R sub hx hy
  obtain ⟨a, o, vs, m, rfl, q1, q2, q3, q4⟩ := Is.inv hx
  obtain ⟨a', o', vs', m', rfl, r1, r2, r3, r4⟩ := Is.inv hy
  have hl : s.heap.IsList a vs := ⟨_, sub _ _ q1, q2, _, q3⟩
  have hl' : s.heap.IsList a' vs' := ⟨_, sub _ _ r1, r2, _, r3⟩
  have hlen : vs.size = l.length := by have := q4.length; simpa using this
  have hlen' : vs'.size = 0 := by have := r4.length; simpa using this
  cases l with
  | nil =>
    refine SeqAt.eq_listAt (e := fun _ => true) hl hl' (by rw [hlen, hlen']; rfl) R.cline (fun j h1 h2 => absurd h2 (by exact (fun hq => (lif [_, _] (.e 1 0 (.v 0) (.n 0) (.s 1 (.a (.v 1) (.n 1)) (.v 0) .z)) rfl hlen' h2)))) ?_
    rw [show (List.range vs.size).all (fun _ => true) = true by simp]
    exact ⟨G, .refl sub, .bool _⟩
  | cons d l =>
    refine SeqAt.eq_list_lengthsAt hl hl' (by rw [hlen, hlen']; simp) R.cline ?_
    exact ⟨G, .refl sub, .bool _⟩
set_option tactic.hygienic true in
theorem op_eq_list_str {l : List D} {b : Str} : Op2 prog w n (compareOp .Eq) (.list l) (.str b) (.bool false) := by
  intro A X G s z y R sub hx hy
  obtain ⟨_, rfl⟩ := Is.inv hy
  obtain ⟨a, o, vs, m, rfl, q1, q2, q3, q4⟩ := Is.inv hx
  have hl : s.heap.IsList a vs := ⟨_, sub _ _ q1, q2, _, q3⟩
  exact SeqAt.RcAt.list_str _ _ hl R.cline prog w _ _ ⟨G, .refl sub, .bool _⟩
theorem op_ne_bool {a b : Bool} : Op2 prog w n (compareOp .NotEq) (.bool a) (.bool b) (.bool (a != b)) := by
  intro A X G s z y R sub hx hy
  obtain rfl := Is.inv hx; obtain rfl := Is.inv hy
  exact ne_bool ⟨G, .refl sub, .bool _⟩
theorem op_is_none {a : D} (h : okD a .none = true ∨ okD a (.int 0) = true) : Op2 prog w n (compareOp .Is) a .none (.bool (eqD a .none)) := by
  intro A X G s z y R sub hx hy
  obtain rfl := Is.inv hy
  cases a with
  | none => obtain rfl := Is.inv hx; exact is_none_none ⟨G, .refl sub, .bool _⟩
  | int i => obtain ⟨_, rfl⟩ := Is.inv hx; exact is_int_none ⟨G, .refl sub, .bool _⟩
  | bool _ => exact h.elim no_ok no_ok
  | str _ => exact h.elim no_ok no_ok
  | list _ => exact h.elim no_ok no_ok
  | tuple _ => exact h.elim no_ok no_ok
  | raw _ => exact h.elim no_ok no_ok
  | rng _ _ _ => exact h.elim no_ok no_ok
theorem op_is_none_str {a : Str} : Op2 prog w n (compareOp .Is) (.str a) .none (.bool false) := by
  intro A X G s z y R sub hx hy
  obtain ⟨_, rfl⟩ := Is.inv hx; obtain rfl := Is.inv hy
  exact is_str_none ⟨G, .refl sub, .bool _⟩
theorem op_isnot_none_none : Op2 prog w n (compareOp .IsNot) .none .none (.bool false) := by
  intro A X G s z y R sub hx hy
  obtain rfl := Is.inv hx; obtain rfl := Is.inv hy
  exact isnot_none_none ⟨G, .refl sub, .bool _⟩
theorem op_isnot_none_str {a : Str} : Op2 prog w n (compareOp .IsNot) (.str a) .none (.bool true) := by
  intro A X G s z y R sub hx hy
  obtain ⟨_, rfl⟩ := Is.inv hx; obtain rfl := Is.inv hy
  exact isnot_str_none ⟨G, .refl sub, .bool _⟩
/-! displays -/
theorem ev_list {es : List Expr} {pos : Pos} {ds : List D} (h : EvalsL prog w K n sx S es (ds.map V.d)) (hlen : ds.length ≤ sizeLine) : Evals prog w K n sx S (.List es pos) (.d (.list ds)) := by
  intro A c G ad s R C hsc st
  refine List_ (wpg (h A c G ad s pos R C hsc st) fun ys s₁ G₁ g₁ e₁ => ?_)
  have e₁' := isL_of_isVL e₁
  refine wpAny_newObj_type ?_ (by show ys.toArray.size ≤ sizeLine; rw [List.size_toArray, e₁'.length]; exact hlen)
  have hnew : New s₁.heap s₁.heap.objs.size := new_size _
  refine ⟨_, g₁.trans ((Same.push s₁ _ s₁.toks).growPut g₁.sub hnew (Heap.get?_push_size _ rfl)), ?_⟩
  show Is _ (.list ds) _
  exact .list (PH.put_self _ _ _) rfl rfl (e₁'.mono (PH.put_le _ g₁.sub hnew))
theorem ev_tuple {es : List Expr} {k : Nat} {pos : Pos} {ds : List D} (h : EvalsL prog w K n sx S es (ds.map V.d)) (hlen : ds.length ≤ sizeLine) : Evals prog w K n sx S (.Tuple es k pos) (.d (.tuple ds)) := by
  intro A c G ad s R C hsc st
  refine Tuple_ (wpg (h A c G ad s pos R C hsc st) fun ys s₁ G₁ g₁ e₁ => ?_)
  have e₁' := isL_of_isVL e₁
  refine wpAny_newObj_type ?_ (by show ys.toArray.size ≤ sizeLine; rw [List.size_toArray, e₁'.length]; exact hlen)
  have hnew : New s₁.heap s₁.heap.objs.size := new_size _
  refine ⟨_, g₁.trans ((Same.push s₁ _ s₁.toks).growPut g₁.sub hnew (Heap.get?_push_size _ rfl)), ?_⟩
  show Is _ (.tuple ds) _
  exact .tuple (PH.put_self _ _ _) rfl rfl (e₁'.mono (PH.put_le _ g₁.sub hnew))

set_option tactic.hygienic true in
theorem op_add_list {a b : List D} (hsz : a.length + b.length ≤ sizeLine) : Op2 prog w n (binaryOp .Add) (.list a) (.list b) (.list (a ++ b)) := by
  intro A X G s z y R sub hx hy
  obtain ⟨l, o, vs, m, rfl, q1, q2, q3, q4⟩ := Is.inv hx
  obtain ⟨l', o', vs', m', rfl, r1, r2, r3, r4⟩ := Is.inv hy
  obtain ⟨oc, od, odt, osl⟩ := o
  obtain ⟨oc', od', odt', osl'⟩ := o'
  simp only at q2 q3 r2 r3
  subst q2 q3 r2 r3
  have hlen : vs.size = a.length := by have := q4.length; simpa using this
  have hlen' : vs'.size = b.length := by have := r4.length; simpa using this
  have hl : s.heap.IsList l vs := ⟨_, sub _ _ q1, rfl, _, rfl⟩
  have hl' : s.heap.IsList l' vs' := ⟨_, sub _ _ r1, rfl, _, rfl⟩
  have hnew : New s.heap s.heap.objs.size := new_size _
  refine concat_meets ⟨_, sub _ _ q1, rfl⟩ ⟨_, sub _ _ r1, rfl⟩ noFill_list_add seq_list_add PySem.F.slot_list_add PySem.F.entry_list_add (PySem.F.args_list_add_2 _ _) (list_addW l l' vs vs' m m' od od' osl osl' (by exact (lin [_, _, _, _, _] (.a (.v 0) (.v 1)) (.v 2) (.s 1 (.a (.v 3) (.v 4)) (.v 2) (.e 1 0 (.v 0) (.v 3) (.e 1 0 (.v 1) (.v 4) .z))) rfl hsz hlen hlen'))) ⟨sub _ _ q1, sub _ _ r1, ?_⟩
  refine ⟨_, (Same.push s _ s.toks).growPut sub hnew (Heap.get?_push_size _ rfl), .list (PH.put_self _ _ _) rfl rfl ?_⟩
  rw [Array.toList_append]
  exact (q4.append r4).mono (PH.put_le _ sub hnew)

/-! chains -/
theorem tests_chain {l r₁ r₂ : Expr} {op₁ op₂ : CmpOp} {pos : Pos} {a b c : D} {p q : Bool} (h1 : Evals prog w K n sx S l (.d a)) (h2 : Evals prog w K n sx S r₁ (.d b)) (h3 : Evals prog w K n sx S r₂ (.d c))
    (o1 : Op2 prog w n (compareOp op₁) a b (.bool p)) (o2 : Op2 prog w n (compareOp op₂) b c (.bool q)) (hm : lastMarks (op₁ :: op₂ :: []) (r₁ :: r₂ :: []) = false := by with_unfolding_all rfl) :
    Tests prog w K n sx S (.Compare l [op₁, op₂] [r₁, r₂] pos) (p && q) := by
  intro A cx G ad s R C hsc st
  refine isTrue_chain (wpg (h1 A cx G ad s R C hsc st) fun x s₁ G₁ g₁ e₁ => ?_) hm
  refine test_link (wpg (h2 A cx G₁ ad s₁ R C hsc (st.step C g₁)) fun y s₂ G₂ g₂ e₂ => ?_)
  refine wpg (o1 A [tabA] G₂ s₂ x y R g₂.sub (Is.mono g₂.le e₁) e₂) fun z s₃ G₃ g₃ e₃ => ?_
  obtain rfl := Is.inv e₃
  refine wpAny_truthy_bool ?_
  cases p with
  | false => exact ⟨G₃, (g₁.trans g₂).trans g₃, rfl⟩
  | true =>
    simp only [if_true]
    refine test_last (wpg (h3 A cx G₃ ad s₃ R C hsc (((st.step C g₁).step C g₂).step C g₃)) fun y' s₄ G₄ g₄ e₄ => ?_)
    refine wpg (o2 A [tabA] G₄ s₄ y y' R g₄.sub ((Is.mono g₃.le e₂).mono g₄.le) e₄) fun z s₅ G₅ g₅ e₅ => ?_
    obtain rfl := Is.inv e₅
    exact wpAny_truthy_bool ⟨G₅, (((g₁.trans g₂).trans g₃).trans g₄).trans g₅, rfl⟩

/-! unpacking -/
theorem draw_walks {A : Around} {I : Addr} {fp wr : List Addr} {m : Nat} {P : Nat → Value → Prop} {W : Nat → Heap → Prop} (hw : Walks prog w A I fp wr m P W) : ∀ (k i : Nat) (s : Shared) (Q : List Value → Shared → Prop) (E : Value → Shared → Prop), W i s.heap → i + k ≤ m →
    (∀ vs h' tk, vs.length = k → (∀ j v, vs[j]? = some v → P (i + j) v) → W (i + k) h' → (∀ b o, b ∉ wr → s.heap.get? b = some o → h'.get? b = some o) → Q vs { s with heap := h', toks := tk }) → wpAny (model prog w) A (draw (.ref I) k) Q E s
  | 0, i, s, Q, E, hW, _, h => by
    show wpAny _ _ (pure []) Q E s
    exact wpAny_pure (h [] s.heap s.toks rfl (fun _ _ e => by simp at e) hW fun _ _ _ e => e)
  | k + 1, i, s, Q, E, hW, hk, h => by
    show wpAny _ _ (pyNext (.ref I) >>= _) Q E s
    refine wpAny_bind (hw.item i _ _ _ (by exact (lin [_, _, _] (.a (.v 0) (.n 1)) (.v 1) (.s 1 (.a (.v 0) (.a (.v 2) (.n 1))) (.v 1) .z) rfl hk)) hW fun v h₁ t₁ hP hW₁ hk₁ => ?_)
    refine wpAny_bind (wpAny_holding (draw_walks hw k (i + 1) _ _ _ hW₁ (by exact (lin [_, _, _] (.a (.a (.v 0) (.n 1)) (.v 1)) (.v 2) (.s 1 (.a (.v 0) (.a (.v 1) (.n 1))) (.v 2) .z) rfl hk)) fun vs h₂ t₂ hl hPs hW₂ hk₂ => wpAny_pure ?_))
    refine h (v :: vs) h₂ t₂ (by simp [hl]) (fun j u e => ?_) (by rw [show i + (k + 1) = i + 1 + k by exact (lid [_, _] (.a (.v 0) (.a (.v 1) (.n 1))) (.a (.a (.v 0) (.n 1)) (.v 1)) rfl)]; exact hW₂) fun b o hb e => hk₂ b o hb (hk₁ b o hb e)
    cases j with
    | zero => simp at e; subst e; exact hP
    | succ j => simp at e; rw [show i + (j + 1) = i + 1 + j by exact (lid [_, _] (.a (.v 0) (.a (.v 1) (.n 1))) (.a (.a (.v 0) (.n 1)) (.v 1)) rfl)]; exact hPs j u e

theorem isL_of_get {G : PH} : ∀ {ds : List D} {vs : List Value}, vs.length = ds.length → (∀ (j : Nat) (v : Value), vs[j]? = some v → ∃ d, ds[j]? = some d ∧ Is G d v) → IsL G ds vs
  | [], [], _, _ => .nil
  | [], _ :: _, h, _ => by simp at h
  | _ :: _, [], h, _ => by simp at h
  | d :: ds, v :: vs, h, k => by
    obtain ⟨d', e, q⟩ := k 0 v rfl
    simp at e; subst e
    exact .cons q (isL_of_get (by simpa using h) fun j u e => by have := k (j + 1) u (by simpa using e); simpa using this)

noncomputable def Unpacks (prog : Program) (w : World) (n : Nat) (d : D) (ds : List D) : Prop :=
  ∀ (A : Around) (G : PH) (s : Shared) (v : Value), Room A n → PSub G s.heap → Is G d v → wpAny (model prog w) A (unpackItems v ds.length none) (fun vs s' => IsL G ds vs ∧ Same s s') Nope s

theorem unpacks_of {d : D} {ds : List D} (hI : ∀ (A : Around) (G : PH) (s : Shared) (v : Value), Room A n → PSub G s.heap → Is G d v → wpAny (model prog w) A (pyIter v) (fun it s₁ => ∃ I fp wr P W, it = .ref I ∧ Walks prog w A I fp wr ds.length P W ∧ W 0 s₁.heap ∧ Same s s₁ ∧ (∀ b ∈ wr, New s.heap b) ∧ (∀ i x, P i x → ∃ d, ds[i]? = some d ∧ Is G d x)) Nope s)
    (hn : ∀ (A : Around) (G : PH) (s : Shared) (v : Value), PSub G s.heap → Is G d v → wpAny (model prog w) A (notIterableAtAll v) (fun b s' => b = false ∧ s' = s) Nope s) : Unpacks prog w n d ds := by
  intro A G s v R sub hv
  unfold unpackItems
  refine wpAny_bind (wpAny_mono (hn A G s v sub hv) (fun b s' hb => ?_) fun _ _ f => f)
  obtain ⟨rfl, rfl⟩ := hb
  simp only [Bool.false_eq_true, if_false]
  refine wpAny_bind (wpAny_holding (wpAny_mono (hI A G _ v R sub hv) (fun it s₁ h₁ => ?_) fun _ _ f => f))
  obtain ⟨I, fp, wr, P, W, rfl, walks, hW, same, hwr, hitem⟩ := h₁
  refine wpAny_bind (wpAny_holding (draw_walks walks ds.length 0 _ _ _ hW (by exact (lin [_] (.a (.n 0) (.v 0)) (.v 0) .z rfl)) fun vs h₂ t₂ hl hPs hW₂ hk₂ => ?_))
  rw [if_neg (by exact (fun hq => (lif [_, _] (.e 0 1 (.v 0) (.v 1) (.s 1 (.a (.v 0) (.n 1)) (.v 1) .z)) rfl hl hq)))]
  rw [Nat.zero_add] at hW₂
  refine wpAny_bind (wpAny_holding (walks.done _ _ _ hW₂ fun h₃ t₃ hk₃ => ?_))
  simp only [Option.isSome_none, Bool.false_eq_true, if_false]
  refine wpAny_pure ⟨isL_of_get hl fun j u e => by have := hitem _ _ (hPs j u e); simpa using this, ?_⟩
  have nw : ∀ b o, s'.heap.get? b = some o → b ∉ wr := fun b o e q => (hwr b q).ne e rfl
  exact ⟨fun b o e => hk₃ b o (nw b o e) (hk₂ b o (nw b o e) (same.keep b o e)), same.os, same.gens⟩
set_option tactic.hygienic true in
theorem unpacks_list {ds : List D} : Unpacks prog w n (.list ds) ds := unpacks_of (fun A G s v R sub x => by
  obtain ⟨a, o, vs, k, rfl, h1, h2, h3, h4⟩ := Is.inv x
  have hl : s.heap.IsList a vs := ⟨_, sub _ _ h1, h2, _, h3⟩
  have hla : a < s.heap.objs.size := Heap.lt_size (sub _ _ h1)
  have hlen : vs.size = ds.length := by have := h4.length; simpa using this
  refine wpAny_pyIter_list hl ?_
  refine ⟨s.heap.objs.size, [s.heap.objs.size, a], [s.heap.objs.size], _, _, rfl, hlen ▸ Walks.list R.handled s.heap.objs.size a (Nat.ne_of_lt hla) vs, ⟨⟨_, Heap.get?_push_size _ rfl, rfl, rfl⟩, hl.push _⟩, Same.push s _ s.toks, ?_, ?_⟩
  · intro b hb; rw [List.mem_singleton.mp hb]; exact new_size _
  · intro i y hy
    exact h4.getv (by simpa using hy)) fun A G s v sub hv => by
  obtain ⟨_, _, _, _, rfl, q1, q2, q3, q4⟩ := Is.inv hv
  have hl : s.heap.IsList _ _ := ⟨_, sub _ _ q1, q2, _, q3⟩
  unfold notIterableAtAll
  exact wpAny_bind (wpAny_specialOf hl.typeIs F.slot_list_iter.lookup (wpAny_pure ⟨rfl, rfl⟩))
set_option tactic.hygienic true in
theorem unpacks_tuple {ds : List D} : Unpacks prog w n (.tuple ds) ds := unpacks_of (fun A G s v R sub x => by
  obtain ⟨a, o, vs, k, rfl, h1, h2, h3, h4⟩ := Is.inv x
  have hl : s.heap.IsTuple a vs := ⟨_, sub _ _ h1, h2, _, h3⟩
  have hla : a < s.heap.objs.size := Heap.lt_size (sub _ _ h1)
  have hlen : vs.size = ds.length := by have := h4.length; simpa using this
  refine wpAny_pyIter_tuple hl ?_
  refine ⟨s.heap.objs.size, [s.heap.objs.size, a], [s.heap.objs.size], _, _, rfl, hlen ▸ Walks.tuple R.handled s.heap.objs.size a (Nat.ne_of_lt hla) vs, ⟨⟨_, Heap.get?_push_size _ rfl, rfl, rfl⟩, hl.push _⟩, Same.push s _ s.toks, ?_, ?_⟩
  · intro b hb; rw [List.mem_singleton.mp hb]; exact new_size _
  · intro i y hy
    exact h4.getv (by simpa using hy)) fun A G s v sub hv => by
  obtain ⟨_, _, _, _, rfl, q1, q2, q3, q4⟩ := Is.inv hv
  have hl : s.heap.IsTuple _ _ := ⟨_, sub _ _ q1, q2, _, q3⟩
  unfold notIterableAtAll
  exact wpAny_bind (wpAny_specialOf hl.typeIs F.slot_tuple_iter.lookup (wpAny_pure ⟨rfl, rfl⟩))

theorem setAll_append (a b : List (Str × D)) (S : State) : setAll (a ++ b) S = setAll b (setAll a S) := List.foldl_append ..

noncomputable def BindsL (prog : Program) (w : World) (K : Frag) (n : Nat) (sx : Sx) (elts : List Expr) (ds : List D) (upd : List (Str × D)) : Prop :=
  (∀ env, (assignEach elts env).length = ds.length) ∧ (∀ env, (assignEach elts env).findIdx? (·.1) = none) ∧
  ∀ (A : Around) (c : Cx) (G : PH) (ad : List Addr) (S : State) (s : Shared) (vs : List Value), Room A n → CxOk K c → c.sx = sx → St c G ad S s → IsL G ds vs →
    wpAny (model prog w) A (assignInOrder ((assignEach elts c.env).map (·.2)) vs) (fun _ s' => ∃ G', St c G' ad (setAll upd S) s' ∧ Step c G ad S s G' ad (setAll upd S) s') Nope s
theorem bindsL_nil : BindsL prog w K n sx [] [] [] := by
  refine ⟨fun _ => rfl, fun _ => rfl, fun A c G ad S s vs R C hsc st h => ?_⟩
  exact assignInOrder_nil ⟨G, st, .refl ..⟩
theorem bindsL_cons {e : Expr} {es : List Expr} {d : D} {ds : List D} {u us : List (Str × D)} (h1 : Binds prog w K n sx e d u) (h2 : BindsL prog w K n sx es ds us) (he : ∀ env, assignEach (e :: es) env = (false, assign e env) :: assignEach es env := by intro _; rfl) : BindsL prog w K n sx (e :: es) (d :: ds) (u ++ us) := by
  refine ⟨fun env => ?_, fun env => ?_, fun A c G ad S s vs R C hsc st h => ?_⟩
  · rw [he]; simp [h2.1 env]
  · rw [he, List.findIdx?_cons, h2.2.1 env]; rfl
  · obtain ⟨_, _, rfl, q1, q2⟩ := IsL.inv h
    rw [he]
    refine assignInOrder_cons (wpg (h1 A c G ad S s _ R C hsc st q1) fun _ s₁ G₁ st₁ t₁ => ?_)
    refine wpg (h2.2.2 A c G₁ ad _ s₁ _ R C hsc st₁ (q2.mono t₁.le)) fun _ s₂ G₂ st₂ t₂ => ?_
    rw [setAll_append]
    exact ⟨G₂, st₂, t₁.trans t₂⟩
theorem St.same {c : Cx} {G : PH} {ad : List Addr} {s s' : Shared} (C : CxOk K c) (st : St c G ad S s) (h : Same s s') : St c G ad S s' := st.grow C (h.grow (X := []) st.sub) (fun _ h => nomatch h)
theorem Same.step {c : Cx} {G : PH} {ad : List Addr} {s s' : Shared} (sub : PSub G s.heap) (h : Same s s') : Step c G ad S s G ad S s' := (h.grow (X := [tabA]) sub).step
theorem binds_tuple {elts : List Expr} {k : Nat} {pos : Pos} {item : D} {ds : List D} {upd : List (Str × D)} (hu : Unpacks prog w n item ds) (h : BindsL prog w K n sx elts ds upd) : Binds prog w K n sx (.Tuple elts k pos) item upd := by
  intro A c G ad S s v R C hsc st hv
  rw [assign_Tuple]
  refine wpAny_bind (wpAny_standAt ?_)
  unfold unpack
  rw [h.1, h.2.1]
  refine wpAny_bind (wpAny_holding (wpAny_mono (hu A G s v R st.sub hv) (fun vs s₁ h₁ => ?_) fun _ _ f => f))
  refine wpg (h.2.2 A c G ad S s₁ vs R C hsc (st.same C h₁.2) h₁.1) fun _ s₂ G₂ st₂ t₂ => ⟨G₂, st₂, (h₁.2.step st.sub).trans t₂⟩

theorem run_unpack {elts : List Expr} {k : Nat} {tpos pos : Pos} {value : Expr} {item : D} {upd : List (Str × D)} {Q : Fl → State → Prop} (he : Evals prog w K n sx S value (.d item)) (hb : Binds prog w K n sx (.Tuple elts k tpos) item upd) (h : Q .next (setAll upd S))
    (hs : ∀ env, swapsWithSole [.Tuple elts k tpos] value pos.line env = pure false := by intro _; rfl) (hw : ∀ env, swappedStores [.Tuple elts k tpos] value env = pure none := by intro _; rfl) : Run1 prog w K n sx S (.Assign [.Tuple elts k tpos] value pos) Q := by
  intro A c G ad s R C hsc st
  refine Assign_Tuple (wpg (he A c G ad s R C hsc st) fun v s₁ G₁ g₁ e₁ => ?_) (hs _) (hw _)
  refine wpg (hb A c G₁ ad S s₁ v R C hsc (st.step C g₁) e₁) fun _ s₂ G₂ st₂ t₂ => ?_
  exact ⟨G₂, ad, _, st₂, g₁.step.trans t₂, h⟩
theorem run_unpack2 {elts : List Expr} {k : Nat} {tpos pos : Pos} {value : Expr} {x y : Str} {a b : D} {Q : Fl → State → Prop} (he : Evals prog w K n sx S value (.d (.tuple [a, b]))) (hx : sx.scope.names.lookup x = some .local) (hy : sx.scope.names.lookup y = some .local) (h : Q .next ((S.set y (.d b)).set x (.d a)))
    (hw : ∀ env : Env, env.scope = sx.scope → swappedStores [.Tuple elts k tpos] value env = pure (some [x, y]))
    (hs : ∀ env, swapsWithSole [.Tuple elts k tpos] value pos.line env = pure false := by intro _; rfl) : Run1 prog w K n sx S (.Assign [.Tuple elts k tpos] value pos) Q := by
  intro A c G ad s R C hsc st
  refine Assign_Tuple_swapped (names := [x, y]) (wpg (he A c G ad s R C hsc st) fun v s₁ G₁ g₁ e₁ => ?_) (hs _) (hw _ (by rw [← hsc]; rfl))
  have st₁ := st.step C g₁
  refine wpAny_mono (unpacks_tuple (ds := [a, b]) A G₁ s₁ v R st₁.sub e₁) (fun vs s₂ h₂ => ?_) fun _ _ f => f
  have st₂ := st₁.same C h₂.2
  have q := h₂.1
  obtain ⟨_, _, rfl, q1, q2⟩ := IsL.inv q
  have hx_ := q2; clear q2; obtain ⟨_, _, rfl, q2, q3⟩ := IsL.inv hx_; clear hx_
  obtain rfl := IsL.inv q3
  subst hsc
  show wpAny _ A (assignInOrder [bindName c.env y, bindName c.env x] [_, _]) _ _ _
  refine assignInOrder_cons (bindName_ (storeLocal (v := .d b) C st₂ q2 hy fun h₃ t₃ st₃ tp₃ => ?_))
  refine assignInOrder_cons (bindName_ (storeLocal (v := .d a) C st₃ q1 hx fun h₄ t₄ st₄ tp₄ => ?_))
  exact assignInOrder_nil ⟨G₁, ad, _, st₄, (((g₁.step).trans (h₂.2.step st₁.sub)).trans tp₃).trans tp₄, h⟩
end
end Mine
end

-- the text M15
section
open PySem PySem.Calls PySem.W PyProof.Rows
set_option maxRecDepth 100000
namespace Mine

set_option tactic.hygienic true in
theorem wk_of_walksT {prog : Program} {w : World} {A : Around} {G₀ : PH} {elts : List Expr} {k : Nat} {pos : Pos} {items : List D} {I : Addr} {fp wr wr' : List Addr} {Pt : Nat → Array Value → Prop} {W : Nat → Heap → Prop} {Mid : Nat → Addr → Heap → Prop}
    (hw : WalksT prog w A I fp wr items.length Pt W Mid) (hitem : ∀ i x, i < items.length → Pt i x → ∃ ds, items[i]? = some (.tuple ds) ∧ IsL G₀ ds x.toList)
    (hth : ∀ i h, W i h → ∀ b ∈ wr', ∃ o, h.get? b = some o) (hsub : ∀ b ∈ wr, b ∈ wr') : Wk prog w A G₀ (.Tuple elts k pos) items I fp wr' W where
  item := fun i s G Q hi hW sub le hwr h => by
    refine hw.item i _ _ _ hi hW fun T vals h' tk hP hsz hT hM hk => ⟨.ref T, rfl, ?_⟩
    refine hw.go elts k pos i T { s with heap := h', toks := tk } _ _ hM fun h'' hW' hk' => ?_
    obtain ⟨ds, hd, hv⟩ := hitem i vals hi hP
    obtain ⟨o, ho, hc, n, hdt⟩ := hT
    have hTn : New s.heap T := new_ge hsz
    have hT' : T ∉ wr' := fun q => by
      obtain ⟨o', e'⟩ := hth _ _ hW T q
      exact absurd e' (by rw [show s.heap.get? T = none from hTn]; exact fun h => nomatch h)
    have ho' : h''.get? T = some o := hk' T o (fun q => hT' (hsub _ q)) ho
    have kk : ∀ b o, b ∉ wr' → s.heap.get? b = some o → h''.get? b = some o := fun b o hb e => hk' b o (fun q => hb (hsub _ q)) (hk b o (fun q => hb (hsub _ q)) e)
    have le2 : PLe G (G.put T o) := PH.put_le o sub hTn
    refine h (.ref T) h'' tk (G.put T o) (.tuple ds) le2 (fun b o' e => ?_) (fun b o' e => ?_) hW' kk hd (.tuple (PH.put_self _ _ _) hc hdt ((hv.mono le).mono le2))
    · unfold PH.put at e
      split at e
      · rename_i hb; subst hb; cases e; exact ho'
      · exact kk b o' (fun q => by rw [hwr b q] at e; cases e) (sub b o' e)
    · unfold PH.put at e
      split at e
      · rename_i hb; subst hb; exact .inr hTn
      · exact .inl e
  done := fun s Q hW h => hw.done _ _ _ hW fun h' tk hk => h h' tk fun b o hb e => hk b o (fun q => hb (hsub _ q)) e
  frame := hw.frame
  self := fun i s Q hW h => hw.self i _ _ _ hW h
  there := hth

section
variable {prog : Program} {w : World} {K : Frag} {n : Nat} {sx : Sx} {S : State}

theorem src_tcall {T : String} {target fn : Expr} {e : Expr} {args : List Expr} {pos : Pos} {ds : List D} {items : List D} (hf : Evals prog w K n sx S fn (.d (.raw (.type T)))) (ha : EvalsL prog w K n sx S (e :: args) (ds.map V.d))
    (h : ∀ (A : Around) (G : PH) (s : Shared) (xs : List Value), Room A n → PSub G s.heap → IsL G ds xs → wpAny (model prog w) A (call (.type T) xs) (fun x sm => Same s sm ∧ wpAny (model prog w) A (pyIter x) (ItPost prog w A target items G s) Nope sm) Nope s)
    (hst : ∀ env, starEach (e :: args) env = (false, eval e env) :: starEach args env := by intro _; rfl) (hplain : ∀ env, (backTo pos (starEach args env)).any (·.1) = false := by intro _; rfl)
    (he : ∀ env, eval (.Call fn (e :: args) [] pos) env = (do callWith pos (← eval fn env) [] (backTo pos (starEach (e :: args) env)) (backToKw pos (keywordEach [] env))) := by intro _; rfl) :
    Src prog w K n sx S target (.Call fn (e :: args) [] pos) items := by
  intro A c G ad s R C hsc st
  refine Call_ (wpg (hf A c G ad s R C hsc st) fun y s₁ G₁ g₁ e₁ => ?_) (he _)
  (first | obtain rfl := Is.inv e₁ | obtain ⟨_, rfl⟩ := Is.inv e₁)
  have st₁ := st.step C g₁
  refine callWith_type1 (wpg (ha A c G₁ ad s₁ pos R C hsc st₁) fun ys s₂ G₂ g₂ e₂ => ?_) (hst _) (hplain _)
  exact wpAny_mono (h A G₂ s₂ ys R g₂.sub (isL_of_isVL e₂)) (fun z sm ⟨h1, h2⟩ => ⟨G₂, s₂, g₁.trans g₂, h1, h2⟩) fun _ _ f => f

theorem zip_apart {m l1 l2 : Nat} (h1 : l1 < m) (h2 : l2 < m) : ZipApart (m + 4) (m + 2) (m + 3) m (m + 1) l1 l2 := by
  constructor <;> (show ¬ (@Eq Nat _ _); lia)
theorem zip_mem {m c : Nat} (h : c ∈ [m + 4, m + 3, m, m + 1]) : c ∈ [m + 4, m + 3, m, m + 1, m + 2] := by simp at h ⊢; lia
theorem zip_ge {m c : Nat} (h : c ∈ [m + 4, m + 3, m, m + 1, m + 2]) : m ≤ c := by simp at h; lia
noncomputable def zipD (a b : List D) : List D := (a.zip b).map fun p => .tuple [p.1, p.2]
set_option tactic.hygienic true in
theorem src_zip {elts : List Expr} {k : Nat} {tpos : Pos} {fn e1 e2 : Expr} {pos : Pos} {a b : List D} (hf : Evals prog w K n sx S fn (.d (.raw (.type "zip")))) (h1 : Evals prog w K n sx S e1 (.d (.list a))) (h2 : Evals prog w K n sx S e2 (.d (.list b)))
    (hst : ∀ env, starEach [e1, e2] env = (false, eval e1 env) :: starEach [e2] env := by intro _; rfl) (hst2 : ∀ env, starEach [e2] env = (false, eval e2 env) :: starEach [] env := by intro _; rfl)
    (hplain : ∀ env, (backTo pos (starEach [e2] env)).any (·.1) = false := by intro _; rfl)
    (he : ∀ env, eval (.Call fn [e1, e2] [] pos) env = (do callWith pos (← eval fn env) [] (backTo pos (starEach [e1, e2] env)) (backToKw pos (keywordEach [] env))) := by intro _; rfl) :
    Src prog w K n sx S (.Tuple elts k tpos) (.Call fn [e1, e2] [] pos) (zipD a b) := by
  refine src_tcall (ds := [.list a, .list b]) hf (evl_cons h1 (evl_cons h2 evl_nil hst2) hst) ?_ hst hplain he
  intro A G s xs R sub hxs
  obtain ⟨_, _, rfl, q1, q2⟩ := IsL.inv hxs
  have hx_ := q2; clear q2; obtain ⟨_, _, rfl, q2, q3⟩ := IsL.inv hx_; clear hx_
  obtain rfl := IsL.inv q3
  obtain ⟨l1, o1, x1, n1, rfl, u1, u2, u3, u4⟩ := Is.inv q1
  obtain ⟨l2, o2, x2, n2, rfl, v1, v2, v3, v4⟩ := Is.inv q2
  have hl1 : s.heap.IsList l1 x1 := ⟨_, sub _ _ u1, u2, _, u3⟩
  have hl2 : s.heap.IsList l2 x2 := ⟨_, sub _ _ v1, v2, _, v3⟩
  have n1 : x1.size = a.length := by have := u4.length; simpa using this
  have n2 : x2.size = b.length := by have := v4.length; simpa using this
  have lt1 := Heap.lt_size (sub _ _ u1)
  have lt2 := Heap.lt_size (sub _ _ v1)
  refine call_zip_2 hl1 hl2 fun h' hz hTI hTO i1 i2 hsz hk => ⟨Same.of s s.toks hk, ?_⟩
  have hlen : (zipD a b).length = min x1.size x2.size := by simp [zipD, n1, n2]
  have wt := WalksT.zip2 (prog := prog) (w := w) (A := A) R.handled (s.heap.objs.size + 4) (s.heap.objs.size + 2) (s.heap.objs.size + 3) s.heap.objs.size (s.heap.objs.size + 1) l1 l2 (zip_apart lt1 lt2) x1 x2
  rw [← hlen] at wt
  have W0 := And.intro hz (And.intro hTI (And.intro (⟨_, _, hTO⟩ : ∃ a b, IsPair h' (s.heap.objs.size + 3) a b) (And.intro i1 (And.intro i2 (And.intro (⟨_, hk _ _ (sub _ _ u1), u2, _, u3⟩ : h'.IsList l1 x1) (⟨_, hk _ _ (sub _ _ v1), v2, _, v3⟩ : h'.IsList l2 x2))))))
  refine wt.self 0 { s with heap := h' } _ _ W0 ?_
  refine ⟨s.heap.objs.size + 4, _, [s.heap.objs.size + 4, s.heap.objs.size + 3, s.heap.objs.size, s.heap.objs.size + 1, s.heap.objs.size + 2], _, rfl, wk_of_walksT (G₀ := G) wt ?_ ?_ ?_, W0, Same.of s s.toks hk, ?_, ?_⟩
  · rintro i vals hi ⟨x, y, hx, hy, rfl⟩
    obtain ⟨d1, e1, j1⟩ := u4.getv (i := i) (v := x) (by simpa using hx)
    obtain ⟨d2, e2, j2⟩ := v4.getv (i := i) (v := y) (by simpa using hy)
    refine ⟨[d1, d2], ?_, .cons j1 (.cons j2 .nil)⟩
    simp [zipD, List.zip, List.getElem?_zipWith, e1, e2]
  · rintro i h ⟨w1, w2, ⟨_, _, w3⟩, ⟨_, w4, _⟩, ⟨_, w5, _⟩, _⟩ c hc
    simp at hc
    rcases hc with rfl | rfl | rfl | rfl | rfl
    · exact ⟨_, w1⟩
    · exact ⟨_, w3⟩
    · exact ⟨_, w4⟩
    · exact ⟨_, w5⟩
    · exact ⟨_, w2⟩
  · intro c hc; exact zip_mem hc
  · intro c hc; exact new_ge (zip_ge hc)
  · intro c hc
    simp at hc
    rcases hc with rfl | rfl | rfl | rfl | rfl | rfl | rfl
    · exact .inl (by simp)
    · exact .inl (by simp)
    · exact .inl (by simp)
    · exact .inl (by simp)
    · exact .inl (by simp)
    · exact .inr ⟨_, sub _ _ u1, u1⟩
    · exact .inr ⟨_, sub _ _ v1, v1⟩

/-! range -/
theorem bc_range1 {i : Int} : BCall prog w n (.type "range") [.int i] (.rng 0 i 1) := by
  intro A X G s xs R sub h
  obtain ⟨_, _, rfl, h1, h2⟩ := IsL.inv h
  obtain rfl := IsL.inv h2; obtain ⟨_, rfl⟩ := Is.inv h1
  refine call_range_1 ?_
  have hnew : New s.heap s.heap.objs.size := new_size _
  exact ⟨_, (Same.push s _ _).growPut sub hnew (Heap.get?_push_size _ rfl), .rng (PH.put_self _ _ _)⟩
theorem bc_range3 {i j k : Int} (hk : k ≠ 0) (hs : k.natAbs < 1073741824) : BCall prog w n (.type "range") [.int i, .int j, .int k] (.rng i j k) := by
  intro A X G s xs R sub h
  obtain ⟨_, _, rfl, h1, h2⟩ := IsL.inv h
  have hx_ := h2; clear h2; obtain ⟨_, _, rfl, h2, h3⟩ := IsL.inv hx_; clear hx_
  have hx_ := h3; clear h3; obtain ⟨_, _, rfl, h3, h4⟩ := IsL.inv hx_; clear hx_
  obtain rfl := IsL.inv h4; obtain ⟨_, rfl⟩ := Is.inv h1; obtain ⟨_, rfl⟩ := Is.inv h2; obtain ⟨_, rfl⟩ := Is.inv h3
  refine call_range_3 hk ?_ (.inl (PyProof.noPylong_small hs))
  have hnew : New s.heap s.heap.objs.size := new_size _
  exact ⟨_, (Same.push s _ _).growPut sub hnew (Heap.get?_push_size _ rfl), .rng (PH.put_self _ _ _)⟩
theorem rangeSize_up {m : Nat} : Builtin.Range.rangeSize 0 (m : Int) 1 = (m : Nat) := by
  rw [rangeSize_one]; split <;> simp_all
theorem small_up {m : Nat} (h : m < 2 ^ 62) : Builtin.Range.small 0 (m : Int) 1 = true := small_one (by decide) (by decide) (by simp) (by lia)
theorem iters_range1 {target : Expr} {m : Nat} (h : m < 2 ^ 62) : Iters prog w n target (.rng 0 (m : Int) 1) (rngItems 0 1 m) := iters_range rangeSize_up (small_up h)
end
end Mine
end

-- the text M16
section
open PySem PySem.Calls PySem.W PyProof.Rows
set_option maxRecDepth 100000
namespace Mine
section
variable {prog : Program} {w : World} {K : Frag} {n : Nat} {sx : Sx} {S : State}

theorem getD_some {α : Type} {l : List α} {j : Nat} (d : α) (h : j < l.length) : l[j]? = some (l.getD j d) := by simp [List.getD, h]

theorem slc_map {α β : Type} (g : α → β) (l : List α) (lo hi : Option Int) : slc (l.map g) lo hi = (slc l lo hi).map g := by
  unfold slc; rw [List.length_map, List.map_take, List.map_drop]
theorem slc_to {α : Type} (l : List α) (k : Nat) : slc l none (some (k : Int)) = l.take k := by
  unfold slc clip
  simp only [List.drop_zero, Nat.sub_zero]
  have h1 : ¬ ((k : Int) < 0) := by simp
  simp only [h1, if_false]
  rcases Nat.le_total k l.length with h | h
  · rw [show (max 0 (min (k : Int) (l.length : Int))).toNat = k by grind]
  · rw [show (max 0 (min (k : Int) (l.length : Int))).toNat = l.length by omega, List.take_length, List.take_of_length_le h]
theorem slc_from {α : Type} (l : List α) (k : Nat) : slc l (some (k : Int)) none = l.drop k := by
  unfold slc clip
  have h1 : ¬ ((k : Int) < 0) := by simp
  simp only [h1, if_false]
  rcases Nat.le_total k l.length with h | h
  · rw [show (max 0 (min (k : Int) (l.length : Int))).toNat = k by grind]
    rw [List.take_of_length_le (by simp)]
  · rw [show (max 0 (min (k : Int) (l.length : Int))).toNat = l.length by omega]
    simp [List.drop_eq_nil_of_le h]
theorem slc_mid {α : Type} (l : List α) (i j : Nat) : slc l (some (i : Int)) (some (j : Int)) = (l.take j).drop i := by
  unfold slc clip
  have h1 : ¬ ((i : Int) < 0) := by simp
  have h2 : ¬ ((j : Int) < 0) := by simp
  simp only [h1, h2, if_false]
  rw [List.drop_take]
  rcases Nat.le_total i l.length with h | h
  · rw [show (max 0 (min (i : Int) (l.length : Int))).toNat = i by grind]
    rcases Nat.le_total j l.length with h' | h'
    · rw [show (max 0 (min (j : Int) (l.length : Int))).toNat = j by grind]
    · rw [show (max 0 (min (j : Int) (l.length : Int))).toNat = l.length by omega]
      rw [List.take_of_length_le (by simp), List.take_of_length_le (by simp; exact (lin [_, _, _, _] (.v 0) (.a (.v 1) (.v 2)) (.s 1 (.v 0) (.v 3) (.s 1 (.v 3) (.a (.v 1) (.v 2)) .z)) rfl h' (subx _ _)))]
  · rw [show (max 0 (min (i : Int) (l.length : Int))).toNat = l.length by omega]
    simp [List.drop_eq_nil_of_le h]

inductive FvOk (sx : Sx) (S : State) (scope : Scope) : List (Str × D) → Prop
  | nil : FvOk sx S scope []
  | cons {y : Str} {d : D} {r : List (Str × D)} : S.get y = some (.d d) → (sx.scope.names.lookup y = some .cell ∨ sx.scope.names.lookup y = some .free) → scope.names.lookup y = some .free → FvOk sx S scope r → FvOk sx S scope ((y, d) :: r)
set_option tactic.hygienic true in
theorem FvOk.all {scope : Scope} {fv : List (Str × D)} (h : FvOk sx S scope fv) : ∀ y d, fv.lookup y = some d → S.get y = some (.d d) ∧ (sx.scope.names.lookup y = some .cell ∨ sx.scope.names.lookup y = some .free) ∧ scope.names.lookup y = some .free := by
  induction h with
  | nil => intro y d e; cases e
  | cons h1 h2 h3 _ ih =>
    intro y d e
    rw [List.lookup_cons] at e
    split at e
    · rename_i hb
      cases e
      rw [beq_iff_eq.mp hb]
      exact ⟨h1, h2, h3⟩
    · exact ih y d e
set_option tactic.hygienic true in
theorem isSome_of_key : ∀ {fv : List (Str × D)} {y : Str}, y ∈ fv.map (·.1) → (fv.lookup y).isSome = true
  | (a, b) :: r, y, h => by
    rw [List.lookup_cons]
    split
    · rfl
    · rename_i hb
      refine isSome_of_key ?_
      rcases List.mem_cons.mp h with q | q
      · rw [q] at hb; simp at hb
      · exact q

/-- what every comprehension's scope is asked -/
structure ScopeOk (sx : Sx) (S : State) (scope : Scope) (fv : List (Str × D)) : Prop where
  kind : scope.kind = .function
  cell : ∀ y ∈ scope.names, y.2 ≠ .cell
  names : ∀ y ∈ scope.names, y.2 = .local → scope.names.lookup y.1 = some .local
  free : ∀ y ∈ scope.names, y.2 = .free → (fv.lookup y.1).isSome = true
  fv : ∀ y d, fv.lookup y = some d → S.get y = some (.d d) ∧ (sx.scope.names.lookup y = some .cell ∨ sx.scope.names.lookup y = some .free) ∧ scope.names.lookup y = some .free
theorem scopeOk {scope : Scope} {fv : List (Str × D)} (fvk : List Str) (h : FvOk sx S scope fv) (hk : fv.map (·.1) = fvk := by rfl) (kind : scope.kind = .function := by rfl) (cell : (scope.names.all fun y => y.2 != .cell) = true := by decide +kernel) (names : (scope.names.all fun y => y.2 != .local || scope.names.lookup y.1 == some .local) = true := by decide +kernel)
    (free : (scope.names.all fun y => y.2 != .free || fvk.contains y.1) = true := by decide +kernel) : ScopeOk sx S scope fv := by
  refine ⟨kind, fun y hy e => ?_, fun y hy e => ?_, fun y hy e => ?_, h.all⟩
  · have := List.all_eq_true.mp cell y hy; rw [e] at this; simp at this
  · have := List.all_eq_true.mp names y hy; rw [e] at this; simpa using this
  · have := List.all_eq_true.mp free y hy; rw [e] at this
    exact isSome_of_key (by rw [hk]; simpa using this)

theorem loop_map {α : Type} {scope : Scope} {fv : List (Str × D)} {elt target iter : Expr} {pos : Pos} {as : List α} {g : α → D} (f : α → D) (upd : D → List (Str × D)) (xs : List Str)
    (hb : ∀ a ∈ as, Binds prog w K n (sxComp sx scope) target (g a) (upd (g a))) (hx : ∀ a ∈ as, (upd (g a)).map (·.1) = xs) (hxf : ∀ x ∈ xs, fv.lookup x = none)
    (helt : ∀ a ∈ as, Evals prog w K n (sxComp sx scope) ⟨((upd (g a)).reverse.map fun p => (p.1, V.d p.2)) ++ (fv.map fun p => (p.1, V.d p.2)), []⟩ elt (.d (f a))) :
    LoopOk prog w K n (sxComp sx scope) (fv.map fun p => (p.1, V.d p.2)) target (.ListComp elt [⟨target, iter, [], 0⟩] scope pos) 0 (as.map g) (as.map f) := by
  have e : as.map f = (as.map fun a => [f a]).flatten := by
    clear hb hx helt
    induction as with
    | nil => rfl
    | cons d l ih => simp [ih]
  rw [e]
  have mem : ∀ {i : Nat} {d : D}, (as.map g)[i]? = some d → ∃ a ∈ as, as[i]? = some a ∧ d = g a := fun {i d} h => by
    rw [List.getElem?_map] at h
    cases q : as[i]? with
    | none => rw [q] at h; cases h
    | some a => rw [q] at h; cases h; exact ⟨a, List.mem_of_getElem? q, rfl, rfl⟩
  refine loop_ok (p := iter.pos) (rest := fun acc env => rest1 elt [] acc env) (upd := upd) (by simp) (fun it acc env => compTurn_1 elt target iter [] scope pos it acc env) (fun _ _ _ => rfl) (fun _ _ _ _ => rfl) (fun _ _ _ => rfl) (fun i d h => ?_) (fun i d r h hr => ?_) (fun i d y v h hv => ?_)
  · obtain ⟨a, ha, _, rfl⟩ := mem h; exact hb a ha
  · obtain ⟨a, ha, hi, rfl⟩ := mem h
    have : r = [f a] := by simp [hi] at hr; exact hr.symm
    subst this
    refine rest1_ok (helt a ha) fun y v hy => ?_
    rw [List.lookup_append] at hy
    rw [mapd_lookup, mapd_lookup] at hy
    cases q : (upd (g a)).reverse.lookup y with
    | some u => rw [q] at hy; simp at hy; exact ⟨_, hy.symm⟩
    | none => rw [q] at hy; simp at hy; obtain ⟨z, _, rfl⟩ := hy; exact ⟨_, rfl⟩
  · obtain ⟨a, ha, hi, rfl⟩ := mem h
    rw [mapd_lookup] at hv ⊢
    cases q : (upd (g a)).reverse.lookup y with
    | none => rfl
    | some u =>
      have hm : y ∈ (upd (g a)).map (·.1) := by
        have := mem_of_lookup q
        exact List.mem_map.mpr ⟨_, List.mem_reverse.mp this, rfl⟩
      rw [hx a ha] at hm
      rw [hxf y hm] at hv; cases hv

theorem loop_filter {α : Type} {scope : Scope} {fv : List (Str × D)} {elt target iter test : Expr} {pos : Pos} {as : List α} {g : α → D} (f : α → D) (p : α → Bool) (upd : D → List (Str × D)) (xs : List Str)
    (hb : ∀ a ∈ as, Binds prog w K n (sxComp sx scope) target (g a) (upd (g a))) (hx : ∀ a ∈ as, (upd (g a)).map (·.1) = xs) (hxf : ∀ x ∈ xs, fv.lookup x = none)
    (ht : ∀ a ∈ as, Tests prog w K n (sxComp sx scope) ⟨((upd (g a)).reverse.map fun p => (p.1, V.d p.2)) ++ (fv.map fun p => (p.1, V.d p.2)), []⟩ test (p a))
    (helt : ∀ a ∈ as, p a = true → Evals prog w K n (sxComp sx scope) ⟨((upd (g a)).reverse.map fun p => (p.1, V.d p.2)) ++ (fv.map fun p => (p.1, V.d p.2)), []⟩ elt (.d (f a))) :
    LoopOk prog w K n (sxComp sx scope) (fv.map fun p => (p.1, V.d p.2)) target (.ListComp elt [⟨target, iter, [test], 0⟩] scope pos) 0 (as.map g) ((as.filter p).map f) := by
  have e : (as.filter p).map f = (as.map fun d => if p d then [f d] else []).flatten := by
    clear hb hx ht helt
    induction as with
    | nil => rfl
    | cons d l ih =>
      rw [List.filter_cons]
      cases h : p d <;> simp [h, ih]
  rw [e]
  have mem : ∀ {i : Nat} {d : D}, (as.map g)[i]? = some d → ∃ a ∈ as, as[i]? = some a ∧ d = g a := fun {i d} h => by
    rw [List.getElem?_map] at h
    cases q : as[i]? with
    | none => rw [q] at h; cases h
    | some a => rw [q] at h; cases h; exact ⟨a, List.mem_of_getElem? q, rfl, rfl⟩
  have all : ∀ (d : D) (y : Str) (v : V), (((upd d).reverse.map fun p => (p.1, V.d p.2)) ++ (fv.map fun p => (p.1, V.d p.2))).lookup y = some v → ∃ z, v = .d z := fun d y v hy => by
    rw [List.lookup_append] at hy
    rw [mapd_lookup, mapd_lookup] at hy
    cases q : (upd d).reverse.lookup y with
    | some u => rw [q] at hy; simp at hy; exact ⟨_, hy.symm⟩
    | none => rw [q] at hy; simp at hy; obtain ⟨z, _, rfl⟩ := hy; exact ⟨_, rfl⟩
  refine loop_ok (p := iter.pos) (rest := fun acc env => rest1 elt [test] acc env) (upd := upd) (by simp) (fun it acc env => compTurn_1 elt target iter [test] scope pos it acc env) (fun _ _ _ => rfl) (fun _ _ _ _ => rfl) (fun _ _ _ => rfl) (fun i d h => ?_) (fun i d r h hr => ?_) (fun i d y v h hv => ?_)
  · obtain ⟨a, ha, _, rfl⟩ := mem h; exact hb a ha
  · obtain ⟨a, ha, hi, rfl⟩ := mem h
    have : r = if p a then [f a] else [] := by simp [hi] at hr; exact hr.symm
    subst this
    have ht' := ht a ha
    cases hp : p a with
    | true =>
      rw [hp] at ht'
      exact rest1_yes ht' (helt a ha hp) (all _)
    | false =>
      rw [hp] at ht'
      exact rest1_no ht' (all _)
  · obtain ⟨a, ha, hi, rfl⟩ := mem h
    rw [mapd_lookup] at hv ⊢
    cases q : (upd (g a)).reverse.lookup y with
    | none => rfl
    | some u =>
      have hm : y ∈ (upd (g a)).map (·.1) := by
        have := mem_of_lookup q
        exact List.mem_map.mpr ⟨_, List.mem_reverse.mp this, rfl⟩
      rw [hx a ha] at hm
      rw [hxf y hm] at hv; cases hv

/-- one clause, a name for a target -/
theorem ev_comp1 {α : Type} {x : Str} {xp : Pos} {elt iter : Expr} {scope : Scope} {pos : Pos} (fv : List (Str × D)) (as : List α) (g f : α → D) (hsrc : Src prog w K n sx S (.Name x xp) iter (as.map g)) (so : ScopeOk sx S scope fv)
    (helt : ∀ a ∈ as, Evals prog w K n (sxComp sx scope) ⟨(x, V.d (g a)) :: (fv.map fun p => (p.1, V.d p.2)), []⟩ elt (.d (f a))) (hlen : as.length ≤ sizeLine) (hk : (sxComp sx scope).scope.names.lookup x = some .local := by rfl) (hxf : fv.lookup x = none := by rfl)
    (hs : ∀ env x, foldedSetIterable iter env x = pure x := by intro _ _; rfl) : Evals prog w K n sx S (.ListComp elt [⟨.Name x xp, iter, [], 0⟩] scope pos) (.d (.list (as.map f))) :=
  ev_comp fv hsrc (loop_map f (fun d => [(x, d)]) [x] (fun d _ => binds_name hk) (fun _ _ => rfl) (fun y hy => by rw [List.mem_singleton.mp hy]; exact hxf) helt) (by rw [List.length_map]; exact hlen) so.kind so.cell so.names so.free so.fv hs
theorem run_comp1 {α : Type} {z : Str} {zp spos : Pos} {Q : Fl → State → Prop} {x : Str} {xp : Pos} {elt iter : Expr} {scope : Scope} {pos : Pos} (fv : List (Str × D)) (as : List α) (g f : α → D) (hsrc : Src prog w K n sx S (.Name x xp) iter (as.map g)) (so : ScopeOk sx S scope fv)
    (helt : ∀ a ∈ as, Evals prog w K n (sxComp sx scope) ⟨(x, V.d (g a)) :: (fv.map fun p => (p.1, V.d p.2)), []⟩ elt (.d (f a))) (hlen : as.length ≤ sizeLine)
    (hsw : ∀ env : Env, env.scope = sx.scope → swapsWith (.ListComp elt [⟨.Name x xp, iter, [], 0⟩] scope pos) (some (.Name z zp)) spos.line env = pure true)
    (h : Q .next (S.set z (.d (.list (as.map f)))))
    (hz : sx.scope.names.lookup z = some .local := by rfl) (hk : (sxComp sx scope).scope.names.lookup x = some .local := by rfl) (hxf : fv.lookup x = none := by rfl)
    (hs : ∀ env x, foldedSetIterable iter env x = pure x := by intro _ _; rfl) : Run1 prog w K n sx S (.Assign [.Name z zp] (.ListComp elt [⟨.Name x xp, iter, [], 0⟩] scope pos) spos) Q :=
  run_assign_comp fv hsrc (loop_map f (fun d => [(x, d)]) [x] (fun d _ => binds_name hk) (fun _ _ => rfl) (fun y hy => by rw [List.mem_singleton.mp hy]; exact hxf) helt) (by rw [List.length_map]; exact hlen) hz h so.kind so.cell so.names so.free so.fv hs hsw

theorem swaps_of {elt : Expr} {gens : List Comprehension} {scope : Scope} {pos : Pos} {z : Str} {zp : Pos} {line : Nat} (hk : sx.scope.kind = .function := by rfl) (hz : sx.scope.names.lookup z = some .local := by rfl) (hl : (zp.line == (Expr.ListComp elt gens scope pos).pos.line) = true := by rfl) (hn : (scope.names.any fun (n, k) => n == z && (k == .local || k == .cell)) = false := by rfl) :
    ∀ env : Env, env.scope = sx.scope → swapsWith (.ListComp elt gens scope pos) (some (.Name z zp)) line env = pure true := by
  intro env he
  have h1 : env.blockKind = .function := by unfold Env.blockKind; rw [he, hk]; rfl
  have h2 : env.kindOf z = some .local := by show env.scope.names.lookup z = _; rw [he]; exact hz
  show (pure (env.blockKind == .function && env.kindOf z == some .local && zp.line == (Expr.ListComp elt gens scope pos).pos.line && !(scope.names.any fun (n, k) => n == z && (k == .local || k == .cell))) : Sem Bool) = pure true
  rw [h1, h2, hl, hn]
  rfl
theorem swapsC_of {elt : Expr} {gens : List Comprehension} {scope : Scope} {pos : Pos} {z : Str} {zp : Pos} {line : Nat} (hz : sx.scope.names.lookup z = some .cell := by rfl) :
    ∀ env : Env, env.scope = sx.scope → swapsWith (.ListComp elt gens scope pos) (some (.Name z zp)) line env = pure false := by
  intro env he
  have h2 : env.kindOf z = some .cell := by show env.scope.names.lookup z = _; rw [he]; exact hz
  show (pure (env.blockKind == .function && env.kindOf z == some .local && zp.line == (Expr.ListComp elt gens scope pos).pos.line && !(scope.names.any fun (n, k) => n == z && (k == .local || k == .cell))) : Sem Bool) = pure false
  rw [h2]
  have e : (some NameKind.cell == some NameKind.local) = false := rfl
  rw [e, Bool.and_false, Bool.false_and, Bool.false_and]
end
end Mine
end

-- the text M17
section
open PySem PySem.Calls PySem.W PyProof.Rows
set_option maxRecDepth 100000
namespace Mine
noncomputable abbrev dz (x : Nat) : D := .int (x : Int)
noncomputable abbrev nz (l : List Nat) : List D := l.map dz
noncomputable abbrev ds (l : List Nat) : D := .str (sl l)
theorem seg_len {α : Type} {l : List α} (h : l.length ≤ 100000) : l.length ≤ sizeLine := by rw [sizeLine_eq]; omega
theorem fdiv_nat (a b : Nat) : (a : Int).fdiv b = ((a / b : Nat) : Int) := by
  first | exact (Int.ofNat_fdiv a b).symm | simp
theorem fmod_nat (a b : Nat) : (a : Int).fmod b = ((a % b : Nat) : Int) := by
  first | exact (Int.ofNat_fmod a b).symm | simp
section
variable {prog : Program} {w : World} {K : Frag} {n : Nat} {sx : Sx} {S : State}

theorem lv {x : Str} {pos : Pos} {v : V} (hv : S.get x = some v := by rfl) (hk : sx.scope.names.lookup x = some .local := by rfl) (hd : (x == ("__debug__" : Str)) = false := by decide) : Evals prog w K n sx S (.Name x pos) v := ev_local hv hk hd
theorem cv {x : Str} {pos : Pos} {v : V} (hv : S.get x = some v := by rfl) (hk : sx.scope.names.lookup x = some .cell := by rfl) (hd : (x == ("__debug__" : Str)) = false := by decide) : Evals prog w K n sx S (.Name x pos) v := ev_cell hv hk hd
theorem gv {x : Str} {pos : Pos} {v : Value} (hv : nsIn K mainGlobals x = some (some v) := by kernel_rfl) (hk : sx.scope.names.lookup x = some .globalImplicit := by rfl) (hd : (x == ("__debug__" : Str)) = false := by decide) : Evals prog w K n sx S (.Name x pos) (.d (.raw v)) := ev_global hv hk hd
theorem bv {x : Str} {pos : Pos} {v : Value} (hv : nsIn K mainGlobals x = some none := by kernel_rfl) (hb : bootBuiltins x = some v := by kernel_rfl) (hm : x ∈ (["len", "chr", "range", "enumerate", "iter", "next", "zip", "isinstance", "str", "list"] : List Str) := by decide) (hk : sx.scope.names.lookup x = some .globalImplicit := by rfl) (hd : (x == ("__debug__" : Str)) = false := by decide) : Evals prog w K n sx S (.Name x pos) (.d (.raw v)) := ev_builtin hv hb hm hk hd
theorem nt (k : Nat) {i : Int} {q : Nat} {pos : Pos} (h : i = (k : Int) := by rfl) : Evals prog w K n sx S (.Constant (.int i) q pos) (.d (dz k)) := h ▸ ev_int
theorem st (l : List Nat) {i : Str} {k : Nat} {pos : Pos} (h : i = sl l := by decide +kernel) : Evals prog w K n sx S (.Constant (.str i) k pos) (.d (ds l)) := h ▸ ev_str
theorem nadd {l r : Expr} {pos : Pos} {a b : Nat} (h1 : Evals prog w K n sx S l (.d (dz a))) (h2 : Evals prog w K n sx S r (.d (dz b))) : Evals prog w K n sx S (.BinOp l .Add r pos) (.d (dz (a + b))) := by
  have := ev_binop (pos := pos) h1 h2 op_add_int
  rwa [show ((a : Int) + (b : Int)) = ((a + b : Nat) : Int) by push_cast; rfl] at this
theorem nmod {l r : Expr} {pos : Pos} {a b : Nat} (h1 : Evals prog w K n sx S l (.d (dz a))) (h2 : Evals prog w K n sx S r (.d (dz b))) (hb : b ≠ 0 := by decide) : Evals prog w K n sx S (.BinOp l .Mod r pos) (.d (dz (a % b))) := by
  have := ev_binop (pos := pos) h1 h2 (op_mod_int (by simp_all))
  rwa [fmod_nat] at this
theorem ndiv {l r : Expr} {pos : Pos} {a b : Nat} (h1 : Evals prog w K n sx S l (.d (dz a))) (h2 : Evals prog w K n sx S r (.d (dz b))) (hb : b ≠ 0 := by decide) (hs : b < 1073741824 := by decide) : Evals prog w K n sx S (.BinOp l .FloorDiv r pos) (.d (dz (a / b))) := by
  have := ev_binop (pos := pos) h1 h2 (op_div_int (by simp_all) (by simpa using hs))
  rwa [fdiv_nat] at this
theorem nmul {l r : Expr} {pos : Pos} {a b : Nat} (h1 : Evals prog w K n sx S l (.d (dz a))) (h2 : Evals prog w K n sx S r (.d (dz b))) (hs : Builtin.Int.intBits (a : Int) ≤ 64 := by decide) : Evals prog w K n sx S (.BinOp l .Mult r pos) (.d (dz (a * b))) := by
  have := ev_binop (pos := pos) h1 h2 (op_mul_int (IntMulOk.of_left hs))
  rwa [show ((a : Int) * (b : Int)) = ((a * b : Nat) : Int) by push_cast; rfl] at this
theorem nmul' {l r : Expr} {pos : Pos} {a b : Nat} (h1 : Evals prog w K n sx S l (.d (dz a))) (h2 : Evals prog w K n sx S r (.d (dz b))) (hs : IntMulOk (a : Int) (b : Int)) : Evals prog w K n sx S (.BinOp l .Mult r pos) (.d (dz (a * b))) := by
  have := ev_binop (pos := pos) h1 h2 (op_mul_int hs)
  rwa [show ((a : Int) * (b : Int)) = ((a * b : Nat) : Int) by push_cast; rfl] at this
theorem int_eq_nat (a b : Nat) : ((a : Int) == (b : Int)) = (a == b) := by
  rw [Bool.eq_iff_iff, beq_iff_eq, beq_iff_eq]; lia
theorem neq {l r : Expr} {pos : Pos} {a b : Nat} (h1 : Evals prog w K n sx S l (.d (dz a))) (h2 : Evals prog w K n sx S r (.d (dz b))) (hm : behindInMarks .Eq r = false := by with_unfolding_all rfl) : Tests prog w K n sx S (.Compare l [.Eq] [r] pos) (a == b) := by
  have := tests_cmp (pos := pos) h1 h2 op_eq_int hm
  rwa [int_eq_nat] at this
theorem nlt {l r : Expr} {pos : Pos} {a b : Nat} (h1 : Evals prog w K n sx S l (.d (dz a))) (h2 : Evals prog w K n sx S r (.d (dz b))) (hm : behindInMarks .Lt r = false := by with_unfolding_all rfl) : Tests prog w K n sx S (.Compare l [.Lt] [r] pos) (decide (a < b)) := by
  have := tests_cmp (pos := pos) h1 h2 op_lt_int hm
  rwa [show decide ((a : Int) < (b : Int)) = decide (a < b) by rw [Bool.eq_iff_iff]; simp] at this
theorem ngt {l r : Expr} {pos : Pos} {a b : Nat} (h1 : Evals prog w K n sx S l (.d (dz a))) (h2 : Evals prog w K n sx S r (.d (dz b))) (hm : behindInMarks .Gt r = false := by with_unfolding_all rfl) : Tests prog w K n sx S (.Compare l [.Gt] [r] pos) (decide (b < a)) := by
  have := tests_cmp (pos := pos) h1 h2 op_gt_int hm
  rwa [show decide ((b : Int) < (a : Int)) = decide (b < a) by rw [Bool.eq_iff_iff]; simp] at this
theorem nge {l r : Expr} {pos : Pos} {a b : Nat} (h1 : Evals prog w K n sx S l (.d (dz a))) (h2 : Evals prog w K n sx S r (.d (dz b))) (hm : behindInMarks .GtE r = false := by with_unfolding_all rfl) : Tests prog w K n sx S (.Compare l [.GtE] [r] pos) (decide (b ≤ a)) := by
  have := tests_cmp (pos := pos) h1 h2 op_ge_int hm
  rwa [show decide ((b : Int) ≤ (a : Int)) = decide (b ≤ a) by rw [Bool.eq_iff_iff]; simp] at this
theorem sadd {l r : Expr} {pos : Pos} {a b : List Nat} (h1 : Evals prog w K n sx S l (.d (ds a))) (h2 : Evals prog w K n sx S r (.d (ds b))) (hs : a.length + b.length ≤ 100000) : Evals prog w K n sx S (.BinOp l .Add r pos) (.d (ds (a ++ b))) := by
  have := ev_binop (pos := pos) h1 h2 (op_add_str (by rw [sl_len, sl_len, sizeLine_eq]; omega))
  rwa [sl_app] at this
theorem seq {l r : Expr} {pos : Pos} {a b : List Nat} (h1 : Evals prog w K n sx S l (.d (ds a))) (h2 : Evals prog w K n sx S r (.d (ds b))) (hm : behindInMarks .Eq r = false := by with_unfolding_all rfl) : Tests prog w K n sx S (.Compare l [.Eq] [r] pos) (a == b) := by
  have := tests_cmp (pos := pos) h1 h2 op_eq_str hm
  rwa [sl_beq] at this
theorem sne {l r : Expr} {pos : Pos} {a b : List Nat} (h1 : Evals prog w K n sx S l (.d (ds a))) (h2 : Evals prog w K n sx S r (.d (ds b))) (hm : behindInMarks .NotEq r = false := by with_unfolding_all rfl) : Tests prog w K n sx S (.Compare l [.NotEq] [r] pos) (a != b) := by
  have := tests_cmp (pos := pos) h1 h2 op_ne_str hm
  rwa [show (sl a != sl b) = (a != b) by rw [bne, sl_beq]; rfl] at this
theorem sidx {value slice : Expr} {pos : Pos} {l : List Nat} {j : Nat} (h1 : Evals prog w K n sx S value (.d (ds l))) (h2 : Evals prog w K n sx S slice (.d (dz j))) (hj : j < l.length) (hb : l.length ≤ 100000)
    (hs : ∀ x t i u, subscripted slice false (.str x t) (.int i u) = operate [.str x t, .int i u] (getItem (.str x t) (.int i u)) := by intro _ _ _ _; with_unfolding_all rfl) : Evals prog w K n sx S (.Subscript value slice pos) (.d (ds [l.getD j 0])) :=
  ev_sub h1 h2 (sub_str (seqIndex_nat hj) (getD_some 0 hj) (seg_len hb) hs)
theorem lidx {value slice : Expr} {pos : Pos} {l : List D} {j : Nat} {d : D} (h1 : Evals prog w K n sx S value (.d (.list l))) (h2 : Evals prog w K n sx S slice (.d (dz j))) (hj : j < l.length) (hd : l[j]? = some d) (hb : l.length ≤ 100000)
    (hs : ∀ x i u, subscripted slice false (.ref x) (.int i u) = operate [.ref x, .int i u] (getItem (.ref x) (.int i u)) := by intro _ _ _; with_unfolding_all rfl) : Evals prog w K n sx S (.Subscript value slice pos) (.d d) :=
  ev_sub h1 h2 (sub_list (seqIndex_nat hj) hd (seg_len hb) hs)
theorem rngItems_up (m : Nat) : rngItems 0 1 m = nz (List.range m) := by
  unfold rngItems nz
  refine List.map_congr_left fun i _ => ?_
  simp
end
end Mine
end

-- the text M18
section
open PySem PySem.Calls PySem.W PyProof.Rows
set_option maxRecDepth 100000
namespace Mine

noncomputable def Hs (S : State) : List (Str × V) → Prop
  | [] => True
  | p :: r => S.get p.1 = some p.2 ∧ Hs S r
set_option tactic.hygienic true in
theorem Hs.get {S : State} : ∀ {l : List (Str × V)}, Hs S l → ∀ y v, l.lookup y = some v → S.get y = some v
  | [], _, _, _, e => by cases e
  | (a, b) :: r, h, y, v, e => by
    rw [List.lookup_cons] at e
    split at e
    · rename_i hb
      cases e
      rw [beq_iff_eq.mp hb]; exact h.1
    · exact Hs.get h.2 y v e
/-- S says at least what C says -/
structure Has (S C : State) : Prop where
  muts : S.muts = C.muts
  get : ∀ y v, C.get y = some v → S.get y = some v
theorem has {S C : State} (m : S.muts = C.muts) (h : Hs S C.vars) : Has S C := ⟨m, h.get⟩
theorem Has.refl (S : State) : Has S S := ⟨rfl, fun _ _ e => e⟩
set_option tactic.hygienic true in
theorem Has.set {S C : State} (h : Has S C) (x : Str) (v : V) : Has (S.set x v) (C.set x v) := by
  refine ⟨h.muts, fun y u e => ?_⟩
  rw [State.get_set] at e ⊢
  split
  · rename_i q; rw [if_pos q] at e; exact e
  · rename_i q; rw [if_neg q] at e; exact h.get y u e
theorem Has.setAll {u : List (Str × D)} : ∀ {S C : State}, Has S C → Has (setAll u S) (setAll u C) := by
  induction u with
  | nil => intro S C h; exact h
  | cons p r ih => intro S C h; exact ih (h.set _ _)

section
variable {prog : Program} {w : World} {K : Frag} {n : Nat} {sx : Sx} {S : State} {Q : Fl → State → Prop}

theorem Has.runs {C : State} {sts : List Stmt} (h : Has S C) (k : Runs prog w K n sx C sts Q) : Runs prog w K n sx S sts Q := runs_weaken h.muts.symm h.get k

/-- what a statement leaves when it goes on -/
noncomputable def NextHas (C : State) (f : Fl) (S' : State) : Prop := match f with | .next => Has S' C | _ => False
theorem runs_join {st : Stmt} {rest : List Stmt} (C : State) (h1 : Run1 prog w K n sx S st (NextHas C)) (h2 : Runs prog w K n sx C rest Q) : Runs prog w K n sx S (st :: rest) Q := by
  refine runs_cons (run1_mono h1 fun f S' h => ?_)
  cases f with
  | next => exact Has.runs h h2
  | brk => exact h.elim
  | cont => exact h.elim
  | ret d => exact h.elim
theorem run_forH {α : Type} {target iter : Expr} {body orelse : List Stmt} {pos : Pos} (as : List α) (g : α → D) (upd : D → List (Str × D)) (C : Nat → State) (P : Nat → Prop)
    (hsrc : Src prog w K n sx S target iter (as.map g)) (hb : ∀ a ∈ as, Binds prog w K n sx target (g a) (upd (g a))) (h0 : Has S (C 0)) (hp : P 0)
    (hbody : ∀ (i : Nat) (a : α), as[i]? = some a → P i → Runs prog w K n sx (setAll (upd (g a)) (C i)) body (Turn (fun S' => P (i + 1) ∧ Has S' (C (i + 1))) Q))
    (hend : P as.length → Runs prog w K n sx (C as.length) orelse Q)
    (hs : ∀ env x, foldedSetIterable iter env x = pure x := by intro _ _; rfl) : Run1 prog w K n sx S (.For target iter body orelse pos) Q := by
  have mem : ∀ {i : Nat} {d : D}, (as.map g)[i]? = some d → ∃ a ∈ as, as[i]? = some a ∧ d = g a := fun {i d} h => by
    rw [List.getElem?_map] at h
    cases q : as[i]? with
    | none => rw [q] at h; cases h
    | some a => rw [q] at h; cases h; exact ⟨a, List.mem_of_getElem? q, rfl, rfl⟩
  refine run_for upd (fun i S' => P i ∧ Has S' (C i)) hsrc (fun i d h => ?_) ⟨hp, h0⟩ (fun i d S' h hJ => ?_) (fun S' hJ => ?_) hs
  · obtain ⟨a, ha, _, rfl⟩ := mem h; exact hb a ha
  · obtain ⟨a, ha, hi, rfl⟩ := mem h
    exact hJ.2.setAll.runs (hbody i a hi hJ.1)
  · rw [List.length_map] at hJ; exact hJ.2.runs (hend hJ.1)

theorem run_whileH {test : Expr} {body orelse : List Stmt} {pos : Pos} {α : Type} (m : α → Nat) (C : α → State) (P : α → Prop) (a₀ : α) (h0 : Has S (C a₀)) (hp : P a₀) (t : α → Bool)
    (ht : ∀ a, P a → Tests prog w K n sx (C a) test (t a))
    (hbody : ∀ a, P a → t a = true → Runs prog w K n sx (C a) body (Turn (fun S' => ∃ b, m b < m a ∧ P b ∧ Has S' (C b)) Q))
    (hend : ∀ a, P a → t a = false → Runs prog w K n sx (C a) orelse Q) : Run1 prog w K n sx S (.While test body orelse pos) Q := by
  refine run_while (J := fun k S' => ∃ a, k = m a ∧ P a ∧ Has S' (C a)) (k₀ := m a₀) ⟨a₀, rfl, hp, h0⟩ ?_
  rintro k S' ⟨a, rfl, hP, hH⟩
  refine ⟨t a, ?_, fun h => ?_, fun h => hH.runs (hend a hP h)⟩
  · intro A c G ad s R C' hsc st
    have e : ∃ vs, C a = { S' with vars := vs } := ⟨(C a).vars, by have := hH.muts; cases h : C a; rw [h] at this; simp at this; rw [← this]⟩
    obtain ⟨vs, e⟩ := e
    have st' : St c G ad (C a) s := by
      rw [e]
      refine st.weaken fun y v hy => hH.get y v ?_
      rw [e]; exact hy
    exact ht a hP A c G ad s R C' hsc st'
  · refine runs_mono (hH.runs (hbody a hP h)) fun f S'' q => ?_
    cases f with
    | next => obtain ⟨b, h1, h2, h3⟩ := q; exact ⟨m b, h1, b, rfl, h2, h3⟩
    | cont => obtain ⟨b, h1, h2, h3⟩ := q; exact ⟨m b, h1, b, rfl, h2, h3⟩
    | brk => exact q
    | ret d => exact q
end
end Mine
end

-- the text M19
section
open PySem PySem.Calls PySem.W PyProof.Rows
set_option maxRecDepth 100000
namespace Mine

/-- an expression that may make mutables -/
noncomputable def EvM (prog : Program) (w : World) (K : Frag) (n : Nat) (sx : Sx) (S : State) (e : Expr) (v : V) (S' : State) : Prop :=
  ∀ (A : Around) (c : Cx) (G : PH) (ad : List Addr) (s : Shared), Room A n → CxOk K c → c.sx = sx → St c G ad S s →
    wpAny (model prog w) A (eval e c.env) (fun y s' => ∃ G' ad', St c G' ad' S' s' ∧ Step c G ad S s G' ad' S' s' ∧ IsV G' ad' v y ∧ (∀ (i : Nat) (a : Addr), ad[i]? = some a → ad'[i]? = some a)) Nope s

section
variable {prog : Program} {w : World} {K : Frag} {n : Nat} {sx : Sx} {S S' : State} {Q : Fl → State → Prop}

theorem evM_of {e : Expr} {v : V} (h : Evals prog w K n sx S e v) : EvM prog w K n sx S e v S := by
  intro A c G ad s R C hsc st
  exact wpg (h A c G ad s R C hsc st) fun y s₁ G₁ g₁ e₁ => ⟨G₁, ad, st.step C g₁, g₁.step, e₁, fun _ _ e => e⟩

theorem alloc_step {c : Cx} {G : PH} {ad : List Addr} {s : Shared} {l : List V} {vs : List Value} (st : St c G ad S s) :
    Step c G ad S s G (ad ++ [s.heap.objs.size]) (S.new (.list l)) { s with heap := s.heap.push { cls := .type "list", data := .seq vs.toArray }, toks := s.toks } := by
  refine ⟨fun b o e _ _ => Heap.get?_push_of_some _ e, fun b q => ?_, fun _ _ e => e, fun _ _ e => .inl e⟩
  rcases q with q | q | q | ⟨k, m, h1, h2, h3⟩
  · exact .inl (.inl q)
  · exact .inl (.inr (.inl q))
  · exact .inl (.inr (.inr (.inl q)))
  · rcases Nat.lt_or_ge k ad.length with hk' | hk'
    · rw [List.getElem?_append_left hk'] at h3
      have hk2 : k < S.muts.length := st.len ▸ hk'
      rw [State.new, List.getElem?_append_left hk2] at h1
      exact .inl (.inr (.inr (.inr ⟨k, m, h1, h2, h3⟩)))
    · rw [List.getElem?_append_right hk'] at h3
      have : b = s.heap.objs.size := by
        cases q : k - ad.length with
        | zero => rw [q] at h3; simp at h3; exact h3.symm
        | succ i => rw [q] at h3; simp at h3
      exact .inr (.inr (this ▸ new_size _))
theorem more_app {ad : List Addr} {a : Addr} : ∀ (i : Nat) (b : Addr), ad[i]? = some b → (ad ++ [a])[i]? = some b := fun i b e => by
  have : i < ad.length := by
    rcases Nat.lt_or_ge i ad.length with q | q
    · exact q
    · rw [List.getElem?_eq_none q] at e; cases e
  rw [List.getElem?_append_left this]; exact e

theorem evM_list {es : List Expr} {vs : List V} {pos : Pos} (he : EvalsL prog w K n sx S es vs) (hlen : vs.length ≤ sizeLine) : EvM prog w K n sx S (.List es pos) (.mu S.muts.length) (S.new (.list vs)) := by
  intro A c G ad s R C hsc st
  refine List_ (wpg (he A c G ad s pos R C hsc st) fun ys s₁ G₁ g₁ e₁ => ?_)
  refine wpAny_newObj_type ?_ (by show ys.toArray.size ≤ sizeLine; rw [List.size_toArray, e₁.length]; exact hlen)
  have st₁ := st.step C g₁
  refine ⟨G₁, _, st₁.alloc C (t := s₁.toks) e₁, g₁.step.trans (alloc_step st₁), ⟨_, by rw [← st₁.len]; simp, rfl⟩, more_app⟩
theorem evM_list1 {e : Expr} {v : V} {pos : Pos} (he : EvM prog w K n sx S e v S') (hst : ∀ env, starEach [e] env = [(false, eval e env)] := by intro _; rfl) : EvM prog w K n sx S (.List [e] pos) (.mu S'.muts.length) (S'.new (.list [v])) := by
  intro A c G ad s R C hsc st
  refine List_ ?_
  have h0 : backTo pos (starEach [e] c.env) = [(false, eval e c.env)] := by rw [hst]; rfl
  rw [h0]
  refine Calls.spliced_cons (wpAny_mono (he A c G ad s R C hsc st) (fun y s₁ ⟨G₁, ad₁, st₁, t₁, e₁, mo⟩ => Calls.spliced_nil ?_) fun _ _ f => f)
  have hsz : ([y] : List Value).toArray.size ≤ sizeLine := by show 1 ≤ sizeLine; rw [sizeLine_eq]; exact (Nat.le_of_ble_eq_true rfl)
  refine wpAny_newObj_type ?_ hsz
  refine ⟨G₁, _, st₁.alloc C (t := s₁.toks) (vs := [y]) (.cons e₁ .nil), t₁.trans (alloc_step st₁), ⟨_, by rw [← st₁.len]; simp, rfl⟩, fun i a h => more_app i a (mo i a h)⟩

theorem run_assignM {x : Str} {pos' pos : Pos} {value : Expr} {v : V} (he : EvM prog w K n sx S value v S') (hk : sx.scope.names.lookup x = some .local := by rfl) (h : Q .next (S'.set x v))
    (hs : ∀ env, swapsWith value (some (.Name x pos')) pos.line env = pure false := by intro _; rfl) : Run1 prog w K n sx S (.Assign [.Name x pos'] value pos) Q := by
  intro A c G ad s R C hsc st
  subst hsc
  refine wpAny_Assign_Name (wpAny_mono (he A c G ad s R C rfl st) (fun z s₁ ⟨G₁, ad₁, st₁, t₁, e₁, _⟩ => ?_) fun _ _ f => f) (hs _)
  exact storeLocal C st₁ e₁ hk fun h' t x y => ⟨G₁, ad₁, _, x, t₁.trans y, h⟩

theorem turn_step {c : Cx} {G : PH} {ad : List Addr} {s : Shared} {k : Nat} {a : Addr} {l l' : List V} {h' : Heap} {t : Nat} (hk : S.muts[k]? = some (.list l)) (ea : ad[k]? = some a) (hs : Heap.SameBut a s.heap h') : Step c G ad S s G ad (S.upd k (.list l')) { s with heap := h', toks := t } := by
  refine step_same hs (.inr (.inr (.inr ⟨k, _, hk, trivial, ea⟩))) fun b q => ?_
  rcases q with q | q | q | ⟨j, m, h1, h2, h3⟩
  · exact .inl q
  · exact .inr (.inl q)
  · exact .inr (.inr (.inl q))
  · by_cases hj : j = k
    · subst hj; exact .inr (.inr (.inr ⟨j, _, hk, trivial, h3⟩))
    · have : (S.upd k (.list l')).muts[j]? = S.muts[j]? := by simp [State.upd, Ne.symm hj]
      rw [this] at h1
      exact .inr (.inr (.inr ⟨j, m, h1, h2, h3⟩))

theorem run_append {o e : Expr} {apos cpos epos : Pos} {k : Nat} {v : V} {l₀ l : List V} (ho : Evals prog w K n sx S o (.mu k)) (he : EvM prog w K n sx S e v S') (hm₀ : S.muts[k]? = some (.list l₀)) (hm : S'.muts[k]? = some (.list l)) (hl : l.length ≤ sizeLine) (h : Q .next (S'.upd k (.list (l ++ [v]))))
    (hbase : ∀ env, attributeBase o "append" env (eval o env) = eval o env := by intro _; rfl) (hline : (apos.endLine == cpos.line) = true := by rfl)
    (htrees : ∀ env, backTo cpos (starEach [e] env) = [(false, eval e env)] := by intro _; rfl)
    (hsw : ∀ env, swapsWith (.Call (.Attribute o "append" apos) [e] [] cpos) none epos.line env = pure false := by intro _; rfl) :
    Run1 prog w K n sx S (.Expr (.Call (.Attribute o "append" apos) [e] [] cpos) epos) Q := by
  intro A c G ad s R C hsc st
  have hi : interactive c.env = false := by
    unfold interactive
    rw [C.kind]; rfl
  refine wpAny_Expr ?_ hi (hsw _)
  refine wpAny_Call_append (hbase _) (by rw [htrees]; rfl) hline (htrees _) (wpg (ho A c G ad s R C hsc st) fun ov s₁ G₁ g₁ e₁ => ?_)
  obtain ⟨a, ea, rfl⟩ := e₁
  have st₁ := st.step C g₁
  obtain ⟨a', vs₀, ea', ⟨n₀, hp⟩, _⟩ := st₁.mt k _ hm₀
  rw [ea] at ea'; cases ea'
  refine ⟨a, vs₀, rfl, ⟨_, n₀, hp, rfl, rfl, rfl⟩, wpAny_mono (he A c G₁ ad s₁ R C hsc st₁) (fun y s₂ ⟨G₂, ad₂, st₂, t₂, e₂, mo⟩ => ?_) fun _ _ f => f⟩
  have ea₂ := mo k a ea
  obtain ⟨a', vs, ea', hp₂, hv⟩ := st₂.mt k _ hm
  rw [ea₂] at ea'; cases ea'
  have hsz : vs.size ≤ sizeLine := by have := hv.length; simp at this; exact (lin [_, _, _] (.v 0) (.v 1) (.s 1 (.v 2) (.v 1) (.e 1 0 (.v 0) (.v 2) .z)) rfl hl this)
  refine wpAny_list_append_plain hp₂ (fun h' hl' hs => ?_) hsz
  have st₃ := st₂.turn C (k := k) (a := a) (l := l) (l' := l ++ [v]) (h' := h') (t := s₂.toks) (vs' := vs.push y) hm ea₂ hl' hs (by rw [Array.toList_push]; exact hv.append (.cons e₂ .nil))
  exact ⟨G₂, ad₂, _, st₃, (g₁.step.trans t₂).trans (turn_step hm ea₂ hs), h⟩

/-! mutables read -/
theorem tests_mlist {e : Expr} {k : Nat} {l : List V} (h1 : Evals prog w K n sx S e (.mu k)) (hm : S.muts[k]? = some (.list l)) (hb : l.length ≤ 100000) (he : ∀ env, isTrue e env (eval e env) = (do let v ← eval e env; standAt e.pos; holding [v] (truthy v)) := by intro _; rfl) : Tests prog w K n sx S e (!l.isEmpty) := by
  intro A c G ad s R C hsc st
  refine isTrue_plain (wpg (h1 A c G ad s R C hsc st) fun x s₁ G₁ g₁ e₁ => ?_) (he _)
  obtain ⟨a, ea, rfl⟩ := e₁
  have st₁ := st.step C g₁
  obtain ⟨a', vs, ea', hp, hv⟩ := st₁.mt k _ hm
  rw [ea] at ea'; cases ea'
  have hlen : vs.size = l.length := by have := hv.length; simpa using this
  refine wpAny_truthy_list hp.isList (by lia) ⟨G₁, g₁.trans ((Same.toks s₁ _).grow st₁.sub), ?_⟩
  rw [Array.isEmpty, hlen]; cases l <;> simp
theorem ev_midx {value slice : Expr} {pos : Pos} {k : Nat} {l : List V} {i : Int} {j : Nat} {v : V} (h1 : Evals prog w K n sx S value (.mu k)) (h2 : Evals prog w K n sx S slice (.d (.int i))) (hm : S.muts[k]? = some (.list l)) (hj : seqIndex? i l.length = some j) (hv : l[j]? = some v) (hb : l.length ≤ 100000)
    (hs : ∀ x i u, subscripted slice false (.ref x) (.int i u) = operate [.ref x, .int i u] (getItem (.ref x) (.int i u)) := by intro _ _ _; with_unfolding_all rfl) : Evals prog w K n sx S (.Subscript value slice pos) v := by
  intro A c G ad s R C hsc st
  refine Subscript_ (wpg (h1 A c G ad s R C hsc st) fun x s₁ G₁ g₁ e₁ => ?_)
  have st₁ := st.step C g₁
  refine wpg (h2 A c G₁ ad s₁ R C hsc st₁) fun y s₂ G₂ g₂ e₂ => ?_
  (first | obtain rfl := Is.inv e₂ | obtain ⟨_, rfl⟩ := Is.inv e₂)
  obtain ⟨a, ea, rfl⟩ := e₁
  have st₂ := st₁.step C g₂
  obtain ⟨a', vs, ea', hp, hvs⟩ := st₂.mt k _ hm
  rw [ea] at ea'; cases ea'
  have hlen : vs.size = l.length := by have := hvs.length; simpa using this
  obtain ⟨y, hy, hd⟩ := hvs.get hv
  have hy' : vs[j]? = some y := by simpa using hy
  refine tail_any hp.isList.typeIs slot_list_getitem.lookup ?_ (hs _ _ _)
  rcases seqIndex_some hj with ⟨hn, h1', h2'⟩ | ⟨hn, h1', h2'⟩
  · have e : (i + (vs.size : Int)).toNat = j := by lia
    exact wpAny_getItem_list_neg hp.isList hn (by simp_all) (by lia) (by rw [e]; exact hy') ⟨G₂, g₁.trans g₂, hd⟩
  · have e : i.toNat = j := by lia
    exact wpAny_getItem_list hp.isList hn (by lia) (by rw [e]; exact hy') ⟨G₂, g₁.trans g₂, hd⟩
end
end Mine
end

-- the text M20
section
open PySem PySem.Calls PySem.W PyProof.Rows
set_option maxRecDepth 100000
namespace Mine
section
variable {prog : Program} {w : World} {K : Frag} {n : Nat} {sx : Sx} {S : State} {Q : Fl → State → Prop}

theorem St.nonew {c : Cx} {G : PH} {ad : List Addr} {s : Shared} (x : St c G ad S s) {b : Addr} (nb : New s.heap b) : Junk c G ad S b := by
  refine ⟨x.new nb, ?_, fun q => ?_⟩
  · cases q : G b with
    | none => rfl
    | some o => exact absurd rfl (nb.ne (x.sub _ _ q))
  · obtain ⟨o, e⟩ := x.ownThere q; exact nb.ne e rfl

theorem rest2_ok {fv : List (Str × V)} {elt target iter : Expr} {scope : Scope} {pos : Pos} {t2 i2 : Expr} {di : D} {items es : List D} (hit : Evals prog w K n sx ⟨fv, []⟩ i2 (.d di)) (hI : Iters prog w n t2 di items) (hd : ∀ y v, fv.lookup y = some v → ∃ z, v = .d z)
    (hloop : LoopOk prog w K n sx fv t2 (.ListComp elt [⟨target, iter, [], 0⟩, ⟨t2, i2, [], 0⟩] scope pos) 1 items es) (hs : ∀ env x, foldedSetIterable i2 env x = pure x) : RestOk prog w K n sx fv (fun acc env => rest2 elt target iter scope pos t2 i2 acc env) es := by
  intro A c G Da acc s vars R C hsc hfv st hz
  unfold rest2
  refine wpAny_bind (wpg (evals_more hit hfv hd A c G [Da] s R C hsc st) fun x s₁ G₁ g₁ e₁ => ?_)
  refine wpAny_bind (wpAny_standAt ?_)
  rw [hs]
  refine wpAny_bind (wpAny_pure ?_)
  have st₁ := st.step C g₁
  refine wpAny_bind (wpAny_holding (wpAny_mono (hI A G₁ s₁ x R st₁.sub e₁) (fun it s₂ h₂ => ?_) fun _ _ f => f))
  obtain ⟨I, fp, wr, W, rfl, F, hW, same, hwr, hfp⟩ := h₂
  have st₂ : St c G₁ [Da] ⟨vars, [.list acc]⟩ s₂ := st₁.same C same
  have t₂ : Step c G [Da] ⟨vars, [.list acc]⟩ s G₁ [Da] ⟨vars, [.list acc]⟩ s₂ := g₁.step.trans (same.step st₁.sub)
  have hj : ∀ b ∈ wr, Junk c G₁ [Da] ⟨vars, [.list acc]⟩ b ∧ ∃ o, s₂.heap.get? b = some o := fun b hb => ⟨st₁.nonew (hwr b hb), F.there 0 _ hW b hb⟩
  have loop := hloop A c G₁ Da acc s₂ vars I fp wr W R C hsc hfv st₂ hz F hW hj (fun b hb => (hfp b hb).elim .inl fun ⟨o, _, e⟩ => .inr ⟨o, e⟩)
  refine wpAny_bind (wpAny_runOwn ?_)
  have loop' : codeAny (model prog w) A (.compLoop (.ListComp elt [⟨target, iter, [], 0⟩, ⟨t2, i2, [], 0⟩] scope pos) 1 (.ref I) (.ref Da) c.env) (fun r s' => ∃ f, r = .ok f ∧ wpAny (model prog w) A (pure () : Sem Unit) (fun _ s' => ∃ G' vars', (∀ y v, fv.lookup y = some v → vars'.lookup y = some v) ∧ St c G' [Da] ⟨vars', [.list (acc ++ es.map V.d)]⟩ s' ∧ Step c G [Da] ⟨vars, [.list acc]⟩ s G' [Da] ⟨vars', [.list (acc ++ es.map V.d)]⟩ s') Nope s') s₂ := by
    refine codeAny_mono loop fun r s' h => ?_
    obtain ⟨rfl, G', vars', h1, h2, h3⟩ := h
    have hnew : ∀ b ∈ wr, New s.heap b := fun b hb => by
      have nb := hwr b hb
      unfold New
      cases q : s.heap.get? b with
      | none => rfl
      | some o => obtain ⟨o', e'⟩ := g₁.there b o q; exact absurd rfl (nb.ne e')
    exact ⟨_, rfl, wpAny_pure ⟨G', vars', h1, h2, Stp.mono (wr := wr) (Stp.trans (Stp.mono (wr' := wr) t₂ fun b hb => nomatch hb) h3) fun b hb => .inr (hnew b hb)⟩⟩
  refine codeAny_mono (R := fun r s' => ∃ f, r = .ok f ∧ wpAny (model prog w) A (pure () : Sem Unit) (fun _ s' => ∃ G' vars', (∀ y v, fv.lookup y = some v → vars'.lookup y = some v) ∧ St c G' [Da] ⟨vars', [.list (acc ++ es.map V.d)]⟩ s' ∧ Step c G [Da] ⟨vars, [.list acc]⟩ s G' [Da] ⟨vars', [.list (acc ++ es.map V.d)]⟩ s') Nope s')
    (codeAny_compStart' (g := ⟨t2, i2, [], 0⟩) rfl rfl loop' (F.self 0 _ _ hW loop')) (fun r s' h => by obtain ⟨f, rfl, h⟩ := h; exact h)

theorem loop_two {α β : Type} {x y : Str} {xp yp : Pos} {elt iter i2 : Expr} {scope : Scope} {pos : Pos} (fv : List (Str × D)) (as : List α) (g : α → D) (bs : List β) (g2 : β → D) (f : α → β → D) {d2 : D}
    (hit : ∀ a ∈ as, Evals prog w K n (sxComp sx scope) ⟨(x, V.d (g a)) :: (fv.map fun p => (p.1, V.d p.2)), []⟩ i2 (.d d2)) (hI : Iters prog w n (.Name y yp) d2 (bs.map g2))
    (helt : ∀ a ∈ as, ∀ b ∈ bs, Evals prog w K n (sxComp sx scope) ⟨(y, V.d (g2 b)) :: (x, V.d (g a)) :: (fv.map fun p => (p.1, V.d p.2)), []⟩ elt (.d (f a b)))
    (hk : (sxComp sx scope).scope.names.lookup x = some .local) (hk2 : (sxComp sx scope).scope.names.lookup y = some .local) (hxf : fv.lookup x = none) (hyf : fv.lookup y = none) (hxy : (y == x) = false)
    (hs2 : ∀ env x, foldedSetIterable i2 env x = pure x) :
    LoopOk prog w K n (sxComp sx scope) (fv.map fun p => (p.1, V.d p.2)) (.Name x xp) (.ListComp elt [⟨.Name x xp, iter, [], 0⟩, ⟨.Name y yp, i2, [], 0⟩] scope pos) 0 (as.map g) (as.map fun a => bs.map (f a)).flatten := by
  have allD : ∀ (u : List (Str × D)) (y : Str) (v : V), ((u.map fun p => (p.1, V.d p.2)) ++ (fv.map fun p => (p.1, V.d p.2))).lookup y = some v → ∃ z, v = .d z := fun u y v hy => by
    rw [List.lookup_append] at hy
    rw [mapd_lookup, mapd_lookup] at hy
    cases q : u.lookup y with
    | some u => rw [q] at hy; simp at hy; exact ⟨_, hy.symm⟩
    | none => rw [q] at hy; simp at hy; obtain ⟨z, _, rfl⟩ := hy; exact ⟨_, rfl⟩
  have mem : ∀ {γ : Type} {l : List γ} {g : γ → D} {i : Nat} {d : D}, (l.map g)[i]? = some d → ∃ a ∈ l, l[i]? = some a ∧ d = g a := fun {γ l g i d} h => by
    rw [List.getElem?_map] at h
    cases q : l[i]? with
    | none => rw [q] at h; cases h
    | some a => rw [q] at h; cases h; exact ⟨a, List.mem_of_getElem? q, rfl, rfl⟩
  have hxl : (sxComp sx scope).scope.names.lookup x = some .local := hk
  have inner : ∀ a ∈ as, LoopOk prog w K n (sxComp sx scope) ((x, V.d (g a)) :: (fv.map fun p => (p.1, V.d p.2))) (.Name y yp) (.ListComp elt [⟨.Name x xp, iter, [], 0⟩, ⟨.Name y yp, i2, [], 0⟩] scope pos) 1 (bs.map g2) (bs.map (f a)) := fun a ha => by
    have e : bs.map (f a) = (bs.map fun b => [f a b]).flatten := by
      clear hI helt
      induction bs with
      | nil => rfl
      | cons d l ih => simp [ih]
    rw [e]
    refine loop_ok (p := i2.pos) (rest := fun acc env => rest1 elt [] acc env) (upd := fun d => [(y, d)]) (by simp) (fun it acc env => compTurn_2i elt (.Name x xp) iter (.Name y yp) i2 scope pos it acc env) (fun _ _ _ => rfl) (fun _ _ _ _ => rfl) (fun _ _ _ => rfl) (fun i d h => binds_name hk2) (fun i d r h hr => ?_) (fun i d y' v h hv => ?_)
    · obtain ⟨b, hb, hi, rfl⟩ := mem h
      have : r = [f a b] := by simp [hi] at hr; exact hr.symm
      subst this
      exact rest1_ok (helt a ha b hb) fun y' v hy => allD [(y, g2 b), (x, g a)] y' v hy
    · show List.lookup y' [(y, V.d d)] = none
      rw [List.lookup_cons]
      cases hb : y' == y with
      | false => rfl
      | true =>
        have hb' := beq_iff_eq.mp hb
        subst hb'
        rw [List.lookup_cons, hxy, mapd_lookup, hyf] at hv; cases hv
  refine loop_ok (p := iter.pos) (rest := fun acc env => rest2 elt (.Name x xp) iter scope pos (.Name y yp) i2 acc env) (upd := fun d => [(x, d)]) (by simp) (fun it acc env => compTurn_2 elt (.Name x xp) iter (.Name y yp) i2 scope pos it acc env) (fun _ _ _ => rfl) (fun _ _ _ _ => rfl) (fun _ _ _ => rfl) (fun i d h => binds_name hk) (fun i d r h hr => ?_) (fun i d y' v h hv => ?_)
  · obtain ⟨a, ha, hi, rfl⟩ := mem h
    have : r = bs.map (f a) := by simp [hi] at hr; exact hr.symm
    subst this
    exact rest2_ok (hit a ha) hI (fun y' v hy => allD [(x, g a)] y' v hy) (inner a ha) hs2
  · show List.lookup y' [(x, V.d d)] = none
    rw [List.lookup_cons]
    cases hb : y' == x with
    | false => rfl
    | true =>
      have hb' := beq_iff_eq.mp hb
      subst hb'
      rw [mapd_lookup, hxf] at hv; cases hv
/-- two clauses, names for targets -/
theorem run_comp2 {α β : Type} {z : Str} {zp spos : Pos} {Q : Fl → State → Prop} {x y : Str} {xp yp : Pos} {elt iter i2 : Expr} {scope : Scope} {pos : Pos} (fv : List (Str × D)) (as : List α) (g : α → D) (bs : List β) (g2 : β → D) (f : α → β → D) {d2 : D} (hsrc : Src prog w K n sx S (.Name x xp) iter (as.map g)) (so : ScopeOk sx S scope fv)
    (hit : ∀ a ∈ as, Evals prog w K n (sxComp sx scope) ⟨(x, V.d (g a)) :: (fv.map fun p => (p.1, V.d p.2)), []⟩ i2 (.d d2)) (hI : Iters prog w n (.Name y yp) d2 (bs.map g2))
    (helt : ∀ a ∈ as, ∀ b ∈ bs, Evals prog w K n (sxComp sx scope) ⟨(y, V.d (g2 b)) :: (x, V.d (g a)) :: (fv.map fun p => (p.1, V.d p.2)), []⟩ elt (.d (f a b))) (hlen : as.length * bs.length ≤ sizeLine)
    (hsw : ∀ env : Env, env.scope = sx.scope → swapsWith (.ListComp elt [⟨.Name x xp, iter, [], 0⟩, ⟨.Name y yp, i2, [], 0⟩] scope pos) (some (.Name z zp)) spos.line env = pure true)
    (h : Q .next (S.set z (.d (.list (as.flatMap fun a => bs.map (f a))))))
    (hz : sx.scope.names.lookup z = some .local := by rfl) (hk : (sxComp sx scope).scope.names.lookup x = some .local := by rfl) (hk2 : (sxComp sx scope).scope.names.lookup y = some .local := by rfl) (hxf : fv.lookup x = none := by rfl) (hyf : fv.lookup y = none := by rfl) (hxy : (y == x) = false := by decide)
    (hs : ∀ env x, foldedSetIterable iter env x = pure x := by intro _ _; rfl) (hs2 : ∀ env x, foldedSetIterable i2 env x = pure x := by intro _ _; rfl) :
    Run1 prog w K n sx S (.Assign [.Name z zp] (.ListComp elt [⟨.Name x xp, iter, [], 0⟩, ⟨.Name y yp, i2, [], 0⟩] scope pos) spos) Q := by
  have e : (as.flatMap fun a => bs.map (f a)) = (as.map fun a => bs.map (f a)).flatten := rfl
  have hcount : (as.flatMap fun a => bs.map (f a)).length = as.length * bs.length := by
    rw [List.length_flatMap]
    clear hsrc so hit hI helt hlen hsw h e
    induction as with
    | nil => simp
    | cons a l ih => simp only [List.map_cons, List.sum_cons, List.length_map, List.length_cons] at ih ⊢; rw [ih, Nat.succ_mul, Nat.add_comm]
  rw [e] at h hcount
  exact run_assign_comp fv hsrc (es := (as.map fun a => bs.map (f a)).flatten) (loop_two fv as g bs g2 f hit hI helt hk hk2 hxf hyf hxy hs2) (by rw [hcount]; exact hlen) hz h so.kind so.cell so.names so.free so.fv hs hsw
theorem ev_comp2 {α β : Type} {x y : Str} {xp yp : Pos} {elt iter i2 : Expr} {scope : Scope} {pos : Pos} (fv : List (Str × D)) (as : List α) (g : α → D) (bs : List β) (g2 : β → D) (f : α → β → D) {d2 : D} (hsrc : Src prog w K n sx S (.Name x xp) iter (as.map g)) (so : ScopeOk sx S scope fv)
    (hit : ∀ a ∈ as, Evals prog w K n (sxComp sx scope) ⟨(x, V.d (g a)) :: (fv.map fun p => (p.1, V.d p.2)), []⟩ i2 (.d d2)) (hI : Iters prog w n (.Name y yp) d2 (bs.map g2))
    (helt : ∀ a ∈ as, ∀ b ∈ bs, Evals prog w K n (sxComp sx scope) ⟨(y, V.d (g2 b)) :: (x, V.d (g a)) :: (fv.map fun p => (p.1, V.d p.2)), []⟩ elt (.d (f a b))) (hlen : as.length * bs.length ≤ sizeLine)
    (hk : (sxComp sx scope).scope.names.lookup x = some .local := by rfl) (hk2 : (sxComp sx scope).scope.names.lookup y = some .local := by rfl) (hxf : fv.lookup x = none := by rfl) (hyf : fv.lookup y = none := by rfl) (hxy : (y == x) = false := by decide)
    (hs : ∀ env x, foldedSetIterable iter env x = pure x := by intro _ _; rfl) (hs2 : ∀ env x, foldedSetIterable i2 env x = pure x := by intro _ _; rfl) :
    Evals prog w K n sx S (.ListComp elt [⟨.Name x xp, iter, [], 0⟩, ⟨.Name y yp, i2, [], 0⟩] scope pos) (.d (.list (as.flatMap fun a => bs.map (f a)))) := by
  have e : (as.flatMap fun a => bs.map (f a)) = (as.map fun a => bs.map (f a)).flatten := rfl
  have hcount : (as.flatMap fun a => bs.map (f a)).length = as.length * bs.length := by
    rw [List.length_flatMap]
    clear hsrc so hit hI helt hlen e
    induction as with
    | nil => simp
    | cons a l ih => simp only [List.map_cons, List.sum_cons, List.length_map, List.length_cons] at ih ⊢; rw [ih, Nat.succ_mul, Nat.add_comm]
  rw [e] at hcount ⊢
  exact ev_comp fv hsrc (es := (as.map fun a => bs.map (f a)).flatten) (loop_two fv as g bs g2 f hit hI helt hk hk2 hxf hyf hxy hs2) (by rw [hcount]; exact hlen) so.kind so.cell so.names so.free so.fv hs
end
end Mine
end

-- the text M21
section
open PySem PySem.Calls PySem.W PyProof.Rows
set_option maxRecDepth 100000
namespace Mine
section
variable {prog : Program} {w : World} {K : Frag} {n : Nat} {sx : Sx} {S : State} {Q : Fl → State → Prop}

/-- a method of a text -/
theorem ev_smeth {o e : Expr} {name : Str} {id : String} {args : List Expr} {apos pos : Pos} {x : Str} {as : List D} {d : D} (slot : Slot "str" name id) (ty : typeOf (.builtin id) = pure (.type "method_descriptor")) (ho : Evals prog w K n sx S o (.d (.str x))) (ha : EvalsL prog w K n sx S (e :: args) (as.map V.d))
    (h : ∀ (A : Around) (X : List Addr) (G : PH) (s : Shared) (t : Tok) (vs : List Value), Room A n → PSub G s.heap → IsL G as vs → Gives (model prog w) X A (call (.builtin id) (.str x t :: vs)) G s d)
    (hst : ∀ env, starEach (e :: args) env = (false, eval e env) :: starEach args env := by intro _; rfl)
    (hbase : ∀ env, attributeBase o name env (eval o env) = eval o env := by intro _; rfl) (hline : (apos.endLine == pos.line) = true := by rfl)
    (hfew : ∀ env, ((backTo pos (starEach (e :: args) env)).all (fun x => !x.1) && (backToKw pos (keywordEach [] env)).all (fun x => x.1.isSome) && decide ((e :: args).length + ([] : List Keyword).length + (if ([] : List Keyword).isEmpty then 0 else 1) < 30)) = true := by intro _; rfl)
    (hplain : ∀ env, (backTo pos (starEach (e :: args) env)).any (·.1) = false := by intro _; rfl) : Evals prog w K n sx S (.Call (.Attribute o name apos) (e :: args) [] pos) (.d d) := by
  intro A c G ad s R C hsc st
  refine wpAny_Call_method_lateS (hbase _) (hfew _) hline (wpg (ho A c G ad s R C hsc st) fun ov s₁ G₁ g₁ e₁ => ?_)
  (first | obtain rfl := Is.inv e₁ | obtain ⟨_, rfl⟩ := Is.inv e₁)
  have st₁ := st.step C g₁
  refine ⟨"str", id, F.plainAttrs_str, slot, ty, typeIs_str _ _ _, (fun _ e => nomatch e), ?_⟩
  have q := ha A c G₁ ad s₁ pos R C hsc st₁
  have hp := hplain c.env
  rw [hst] at q hp ⊢
  refine Calls.callWith_builtin hp (Calls.evalArgs_plain (wpAny_mono q (fun ys s₂ h₂ => ?_) fun _ _ f => f))
  obtain ⟨G₂, g₂, e₂⟩ := h₂
  exact wpg (h A [tabA] G₂ s₂ _ ys R g₂.sub (isL_of_isVL e₂)) fun z s₃ G₃ g₃ e₃ => ⟨G₃, (g₁.trans g₂).trans g₃, e₃⟩

noncomputable def joinL (sep : List Nat) : List (List Nat) → List Nat
  | [] => []
  | [a] => a
  | a :: b :: r => a ++ sep ++ joinL sep (b :: r)
theorem joinL_nil : ∀ (l : List (List Nat)), joinL [] l = l.flatten
  | [] => rfl
  | [a] => by simp [joinL]
  | a :: b :: r => by
    rw [joinL, joinL_nil (b :: r)]; simp
theorem str_join (sep : List Nat) : ∀ (l : List (List Nat)), Str.join (sl sep) (l.map sl) = sl (joinL sep l) := by
  intro l
  match l with
  | [] => rfl
  | [a] => rfl
  | a :: b :: r =>
    have ih := str_join sep (b :: r)
    show sl a ++ sl sep ++ Str.join (sl sep) ((b :: r).map sl) = _
    rw [ih, sl_app, sl_app]; rfl
theorem strsAre_of {G : PH} : ∀ {l : List (List Nat)} {vs : List Value}, IsL G (l.map ds) vs → StrsAre vs (l.map sl)
  | [], _, h => by cases h; exact .nil
  | a :: l, _, h => by
    obtain ⟨_, _, rfl, h1, h2⟩ := IsL.inv h
    obtain ⟨_, rfl⟩ := Is.inv h1
    exact .cons _ _ (strsAre_of h2)
theorem ev_join {o e : Expr} {apos pos : Pos} {sep : List Nat} {l : List (List Nat)} (ho : Evals prog w K n sx S o (.d (ds sep))) (he : Evals prog w K n sx S e (.d (.list (l.map ds)))) (hsep : sep.length ≤ 16) (hw : (l.map (·.length)).sum + l.length ≤ 1048576)
    (hst : ∀ env, starEach [e] env = (false, eval e env) :: starEach [] env := by intro _; rfl)
    (hbase : ∀ env, attributeBase o "join" env (eval o env) = eval o env := by intro _; rfl) (hline : (apos.endLine == pos.line) = true := by rfl)
    (hfew : ∀ env, ((backTo pos (starEach [e] env)).all (fun x => !x.1) && (backToKw pos (keywordEach [] env)).all (fun x => x.1.isSome) && decide ([e].length + ([] : List Keyword).length + (if ([] : List Keyword).isEmpty then 0 else 1) < 30)) = true := by intro _; rfl)
    (hplain : ∀ env, (backTo pos (starEach [e] env)).any (·.1) = false := by intro _; rfl) : Evals prog w K n sx S (.Call (.Attribute o "join" apos) [e] [] pos) (.d (ds (joinL sep l))) := by
  refine ev_smeth (as := [_]) F.slot_str_join F.type_str_join ho (evl_cons he evl_nil hst) ?_ hst hbase hline hfew hplain
  intro A X G s t vs R sub h
  obtain ⟨_, _, rfl, h1, h2⟩ := IsL.inv h
  obtain rfl := IsL.inv h2
  obtain ⟨_, _, _, _, rfl, q1, q2, q3, q4⟩ := Is.inv h1
  have hl : s.heap.IsList _ _ := ⟨_, sub _ _ q1, q2, _, q3⟩
  refine join_listW hl (strsAre_of q4) (by rw [sl_len]; exact hsep) ?_ fun t' k => ⟨G, (Same.toks s _).grow sub, ?_⟩
  · rw [List.map_map, List.length_map]
    have : (fun x => x.length) ∘ sl = fun x => x.length := by funext x; exact sl_len x
    rw [this]; exact hw
  · have e : Txt.join (sl sep) (l.map sl) = sl (joinL sep l) := (StrLaws.glued_eq_join _ _).trans (str_join sep l)
    rw [e]; exact .str _ _
end
end Mine
end

-- the text M22
section
open PySem PySem.Calls PySem.W PyProof.Rows
open Sem (wp)
open AutoSeq1 (wpAny_loadPart')
set_option maxRecDepth 100000
namespace Mine
section
variable {prog : Program} {w : World} {K : Frag} {n : Nat} {sx : Sx} {S : State}

/-- a datum of the top -/
theorem gvD {x : Str} {pos : Pos} {v : Value} {d : D} (hd : Is (fun a => K.lookup a) d v) (hv : nsIn K mainGlobals x = some (some v) := by kernel_rfl) (hk : sx.scope.names.lookup x = some .globalImplicit := by rfl) (hdb : (x == ("__debug__" : Str)) = false := by decide) : Evals prog w K n sx S (.Name x pos) (.d d) := by
  intro A c G ad s R C hsc st
  subst hsc
  have T := st.top C
  obtain ⟨mg, hg⟩ := T.glob
  exact Name_function_global C.kind hk (loadGlobal_global (C.glob ▸ hg) (mg_of T.obj hg hv) ⟨G, .refl st.sub, hd.mono fun a o e => st.le a o (C.kg a o e)⟩) hdb

theorem nextOf_tuple_item {A : Around} {E : Value → Shared → Prop} {s : Shared} {it t : Addr} {i : Nat} {items : Array Value} {x : Value} {Q : Value → Shared → Prop} (hit : IsTupIter s.heap it t i) (ht : IsTup s.heap t items) (hx : items[i]? = some x)
    (hQ : ∀ h', IsTupIter h' it t (i + 1) → Heap.SameBut it s.heap h' → Q x { s with heap := h' }) : wpAny (model prog w) A (Builtin.SmallTypes.nextOf (.ref it)) Q E s := by
  obtain ⟨o, ho, hc, hd⟩ := id hit
  obtain ⟨ol, hol, _, nl, hdl⟩ := ht
  unfold Builtin.SmallTypes.nextOf
  refine wpAny_bind (wpAny_callSpecial?_slot (name := Str.ofString "__next__") hit.typeIs slot_tupleiter_next (wpAny_call_entry slot_tupleiter_next hit.typeIs entry_tupleiter_next ?_ (args_tupleiter_next _)))
  show wpAny _ _ (field (.ref it) 0 >>= _) _ _ s
  refine wpAny_bind (wpAny_field ho hd (x := .ref t) rfl ?_)
  show wpAny _ _ (if (Value.ref t == Value.none) = true then _ else _) _ _ s
  rw [if_neg (show ¬ ((Value.ref t == Value.none) = true) from Bool.false_ne_true)]
  show wpAny _ _ (field (.ref it) 1 >>= _) _ _ s
  refine wpAny_bind (wpAny_field ho hd (x := .int i 0) rfl ?_)
  show wpAny _ _ (seqItems? (.ref t) >>= _) _ _ s
  refine wpAny_bind (wpAny_seqItems hol hdl ?_)
  simp only [Int.toNat_natCast, hx]
  refine wpAny_bind (wpAny_setField ho hd (by simp) (wpAny_pure ⟨x, rfl, wpAny_pure (hQ _ ?_ (Heap.SameBut.update ..))⟩))
  exact ⟨_, Heap.get?_update_self _ ho (Obj.isFreed_of_fields (Obj.data_mapFields hd _)), (Obj.cls_mapFields ..).trans hc, by
    rw [Obj.data_mapFields hd]; simp [rawInt]⟩
theorem nextOf_tuple_end {A : Around} {E : Value → Shared → Prop} {s : Shared} {it t : Addr} {i : Nat} {items : Array Value} {Q : Value → Shared → Prop} (hh : A.handled = none) (hit : IsTupIter s.heap it t i) (ht : IsTup s.heap t items) (hx : items[i]? = none)
    (hE : ∀ h' e, Heap.ExtBut it s.heap h' → (∃ o, h'.get? e = some o ∧ o.cls = .type "StopIteration") → E (.ref e) { s with heap := h' }) : wpAny (model prog w) A (Builtin.SmallTypes.nextOf (.ref it)) Q E s := by
  obtain ⟨o, ho, hc, hd⟩ := id hit
  obtain ⟨ol, hol, _, nl, hdl⟩ := ht
  unfold Builtin.SmallTypes.nextOf
  refine wpAny_bind (wpAny_callSpecial?_slot (name := Str.ofString "__next__") hit.typeIs slot_tupleiter_next (wpAny_call_entry slot_tupleiter_next hit.typeIs entry_tupleiter_next ?_ (args_tupleiter_next _)))
  show wpAny _ _ (field (.ref it) 0 >>= _) _ _ s
  refine wpAny_bind (wpAny_field ho hd (x := .ref t) rfl ?_)
  show wpAny _ _ (if (Value.ref t == Value.none) = true then _ else _) _ _ s
  rw [if_neg (show ¬ ((Value.ref t == Value.none) = true) from Bool.false_ne_true)]
  show wpAny _ _ (field (.ref it) 1 >>= _) _ _ s
  refine wpAny_bind (wpAny_field ho hd (x := .int i 0) rfl ?_)
  show wpAny _ _ (seqItems? (.ref t) >>= _) _ _ s
  refine wpAny_bind (wpAny_seqItems hol hdl ?_)
  simp only [Int.toNat_natCast, hx]
  refine wpAny_bind (wpAny_rule (wpAny_bind (wpAny_setField ho hd (by simp) ?_)))
  show wpAny _ _ (newExc (.type "StopIteration") [] >>= _) _ _ _
  refine wpAny_bind ?_
  simp only [newExc, newTuple]
  refine wpAny_bind (wpAny_newObj_type ?_ (by size_fits))
  refine wpAny_bind (m := firstArgMember _ _) (wpAny_of_eq (a := Value.none) (by first | rfl | (simp only [firstArgMember]; rfl)) ?_)
  refine wpAny_newObj_type ?_ (by size_fits)
  simp only [raiseNew]
  refine wpAny_bind (wpAny_handled ?_)
  first | rw [show A.in1.handled = none from hh] | rw [hh]
  refine wpAny_bind (wpAny_pure (wpAny_throw ?_))
  exact hE _ _ (((Heap.SameBut.update ..).extBut.push _).push _) ⟨_, Heap.get?_push_size _ rfl, rfl⟩

theorem draws_tuple {A : Around} (hh : A.handled = none) (it l : Addr) (hne : l ≠ it) (items : Array Value) :
    Draws prog w A it [it, l] items.size (fun i v => items[i]? = some v) (fun i h => IsTupIter h it l i ∧ IsTup h l items) where
  live := fun _ _ st => let ⟨o, ho, _⟩ := st.1; ⟨o, ho⟩
  frame := fun _ _ _ st hk => by
    obtain ⟨⟨o, ho, r⟩, ⟨o', ho', r'⟩⟩ := st
    exact ⟨⟨o, hk it (by simp) o ho, r⟩, ⟨o', hk l (by simp) o' ho', r'⟩⟩
  item := fun i s Q E hi st hQ => by
    refine nextOf_tuple_item st.1 st.2 (x := items[i]) (by simp [hi]) fun h' hit' hs' => ?_
    exact hQ _ h' s.toks (by simp [hi]) ⟨hit', st.2.extBut hs'.extBut hne⟩ hs'
  done := fun s Q E st hE => nextOf_tuple_end hh st.1 st.2 (by simp) hE

set_option tactic.hygienic true in
theorem meets_enumerate_newT (l : Addr) (items : Array Value) (n : Nat) (dct : Option Addr) (sl : Array (Option Value)) :
    Meets (Builtin.«enumerate.__new__» ⟨[.type "enumerate", .ref l], []⟩) (fun _ R s => s.heap.get? l = some { cls := .type "tuple", dict := dct, data := .seq items n, slots := sl } ∧
      R (.ok (.ret (.ref (s.heap.push { cls := .type "tuple_iterator", data := .fields #[.ref l, .int 0 0] }).objs.size)))
        { s with heap := (s.heap.push { cls := .type "tuple_iterator", data := .fields #[.ref l, .int 0 0] }).push { cls := .type "enumerate", data := .fields #[.none, .bool false, .ref s.heap.objs.size, rawInt 0, .none, .none] } }) :=
  .of_wp fun prog w A R s h => by
    obtain ⟨hp, g, d, tk, os⟩ := s; obtain ⟨hl, h⟩ := h
    have hsub := sub_enumerate
    have hL : Heap.IsTuple (Shared.heap ⟨hp, g, d, tk, os⟩) l items := ⟨_, hl, rfl, n, rfl⟩
    wp_walk using wpAny_loadPart' hl
    refine wpAny_stack_any fun st => wpAny_pure ?_
    split
    · rename_i c _ _ _ _ _
      cases (c == Value.type "enumerate")
      · wp_walk using wpAny_loadPart' hl, wpAny_pyIter_tuple hL
        exact ⟨_, rfl, h⟩
      · wp_walk using wpAny_loadPart' hl, wpAny_pyIter_tuple hL
        exact ⟨_, rfl, h⟩
    · wp_walk using wpAny_loadPart' hl, wpAny_pyIter_tuple hL
      exact ⟨_, rfl, h⟩

theorem call_enumerate_tuple {A : Around} {E : Value → Shared → Prop} {s : Shared} {l : Addr} {items : Array Value} {Q : Value → Shared → Prop} (hL : s.heap.IsTuple l items)
    (h : ∀ h', IsEnum h' (s.heap.objs.size + 1) s.heap.objs.size 0 .none → IsTupIter h' s.heap.objs.size l 0 → h'.objs.size = s.heap.objs.size + 2 →
      (∀ b o, s.heap.get? b = some o → h'.get? b = some o) → Q (.ref (s.heap.objs.size + 1)) { s with heap := h' }) :
    wpAny (model prog w) A (call (.type "enumerate") [.ref l]) Q E s := by
  obtain ⟨⟨c, dct, dt, sl⟩, hl, hc, n, hd⟩ := hL
  replace hc : c = .type "tuple" := hc
  replace hd : dt = .seq items n := hd
  subst hc hd
  refine callType_new F.called_enumerate (by decide) (F.typeCall_enumerate_1 _) (F.newCall_enumerate_1 _) (fun obj => F.args_object_init_2 obj _) F.entry_enumerate_new
    (meets_enumerate_newT l items n dct sl) ⟨hl, ?_⟩
  have hz : (s.heap.push { cls := .type "tuple_iterator", data := .fields #[.ref l, .int 0 0] }).objs.size = s.heap.objs.size + 1 := Heap.size_push ..
  show _ ∧ _
  rw [hz]
  have he : IsEnum ((s.heap.push { cls := .type "tuple_iterator", data := .fields #[.ref l, .int 0 0] }).push
      { cls := .type "enumerate", data := .fields #[.none, .bool false, .ref s.heap.objs.size, rawInt 0, .none, .none] }) (s.heap.objs.size + 1) s.heap.objs.size 0 .none := by
    have := Heap.get?_push_size (s.heap.push { cls := .type "tuple_iterator", data := .fields #[.ref l, .int 0 0] })
      (o := { cls := .type "enumerate", data := .fields #[.none, .bool false, .ref s.heap.objs.size, rawInt 0, .none, .none] }) rfl
    rw [hz] at this; exact this
  refine ⟨⟨_, he, rfl⟩, h _ he ⟨_, Heap.get?_push_of_some _ (Heap.get?_push_size _ rfl), rfl, rfl⟩ (by rw [Heap.size_push, hz]) fun b o x => Heap.get?_push_of_some _ (Heap.get?_push_of_some _ x)⟩

theorem enum_ge {m c : Nat} (h : c ∈ [m + 1, m]) : m ≤ c := by simp at h; lia
theorem enum_ne {m : Nat} : m + 1 ≠ m := by exact (fun hq => (lif [_] (.e 1 0 (.a (.v 0) (.n 1)) (.v 0) .z) rfl hq))
theorem enum_ne2 {m l : Nat} (h : l < m) : l ≠ m ∧ m + 1 ∉ [m, l] := ⟨by exact (fun hq => (lif [_, _] (.s 1 (.a (.v 0) (.n 1)) (.v 1) (.e 0 1 (.v 0) (.v 1) .z)) rfl h hq)), by simp; lia⟩
noncomputable def enumD (l : List D) : List D := l.zipIdx.map fun p => .tuple [.int (p.2 : Int), p.1]
set_option tactic.hygienic true in
theorem src_enum {elts : List Expr} {k : Nat} {tpos : Pos} {fn e1 : Expr} {pos : Pos} {a : List D} (hf : Evals prog w K n sx S fn (.d (.raw (.type "enumerate")))) (h1 : Evals prog w K n sx S e1 (.d (.tuple a)))
    (hst : ∀ env, starEach [e1] env = (false, eval e1 env) :: starEach [] env := by intro _; rfl)
    (hplain : ∀ env, (backTo pos (starEach [] env)).any (·.1) = false := by intro _; rfl)
    (he : ∀ env, eval (.Call fn [e1] [] pos) env = (do callWith pos (← eval fn env) [] (backTo pos (starEach [e1] env)) (backToKw pos (keywordEach [] env))) := by intro _; rfl) :
    Src prog w K n sx S (.Tuple elts k tpos) (.Call fn [e1] [] pos) (enumD a) := by
  refine src_tcall (ds := [.tuple a]) hf (evl_cons h1 evl_nil hst) ?_ hst hplain he
  intro A G s xs R sub hxs
  obtain ⟨_, _, rfl, q1, q2⟩ := IsL.inv hxs
  obtain rfl := IsL.inv q2
  obtain ⟨l1, o1, x1, n1, rfl, u1, u2, u3, u4⟩ := Is.inv q1
  have hl1 : s.heap.IsTuple l1 x1 := ⟨_, sub _ _ u1, u2, _, u3⟩
  have n1 : x1.size = a.length := by have := u4.length; simpa using this
  have lt1 := Heap.lt_size (sub _ _ u1)
  refine call_enumerate_tuple hl1 fun h' hz i1 hsz hk => ⟨Same.of s s.toks hk, ?_⟩
  have hlen : (enumD a).length = x1.size := by simp [enumD, n1]
  have D1 := draws_tuple (prog := prog) (w := w) (A := A.in1) R.handled s.heap.objs.size l1 (enum_ne2 lt1).1 x1
  have wt := WalksT.enumerateD D1 (s.heap.objs.size + 1) enum_ne (enum_ne2 lt1).2 List.mem_cons_self
  rw [← hlen] at wt
  have W0 : (∃ old, IsEnum h' (s.heap.objs.size + 1) s.heap.objs.size ((0 : Nat) : Int) old) ∧ IsTupIter h' s.heap.objs.size l1 0 ∧ IsTup h' l1 x1 := ⟨⟨_, hz⟩, i1, ⟨_, hk _ _ (sub _ _ u1), u2, _, u3⟩⟩
  refine wt.self 0 { s with heap := h' } _ _ W0 ?_
  refine ⟨s.heap.objs.size + 1, _, [s.heap.objs.size + 1, s.heap.objs.size], _, rfl, wk_of_walksT (G₀ := G) wt ?_ ?_ ?_, W0, Same.of s s.toks hk, ?_, ?_⟩
  · rintro i vals hi ⟨t, x, hx, rfl⟩
    obtain ⟨d1, e1, j1⟩ := u4.getv (i := i) (v := x) (by simpa using hx)
    refine ⟨[.int (i : Int), d1], ?_, .cons (.int _ _) (.cons j1 .nil)⟩
    simp [enumD, List.getElem?_zipIdx, e1]
  · rintro i h ⟨⟨_, w1⟩, ⟨_, w2, _⟩, _⟩ c hc
    rcases List.mem_cons.mp hc with rfl | hc
    · exact ⟨_, w1⟩
    · rw [List.mem_singleton.mp hc]; exact ⟨_, w2⟩
  · intro c hc; exact hc
  · intro c hc; exact new_ge (enum_ge hc)
  · intro c hc
    rcases List.mem_cons.mp hc with rfl | hc
    · exact .inl List.mem_cons_self
    · rcases List.mem_cons.mp hc with rfl | hc
      · exact .inl (List.mem_cons_of_mem _ List.mem_cons_self)
      · rw [List.mem_singleton.mp hc]; exact .inr ⟨_, sub _ _ u1, u1⟩
end
end Mine
end

-- the text M23
section
open PySem PySem.Calls PySem.W PyProof.Rows
open Sem (wp)
open Builtin
set_option maxRecDepth 100000
namespace Mine

theorem get_md : typeLookup (.type "method_descriptor") "__get__" = pure (some (.builtin "method_descriptor.__get__")) := by rw [typeLookup_type, builtinLookup_eq_fast]; kernel_rfl
theorem set_md : typeLookup (.type "method_descriptor") "__set__" = pure none := by rw [typeLookup_type, builtinLookup_eq_fast]; kernel_rfl
theorem del_md : typeLookup (.type "method_descriptor") "__delete__" = pure none := by rw [typeLookup_type, builtinLookup_eq_fast]; kernel_rfl
theorem isa_list : isSubtype (.type "list") (.type "list") = pure true := by rw [isSubtype_type]; kernel_rfl
theorem entry_md_get : entryFor table "method_descriptor.__get__" = some Builtin.«method_descriptor.__get__» := entryFor_of_tree (by kernel_rfl)

set_option maxHeartbeats 1000000 in
theorem meets_md_get (a : Addr) (xs : Array Value) (k : Nat) (sl : Array (Option Value)) :
    Meets (Builtin.«method_descriptor.__get__» ⟨[.builtin "list.append", .ref a, .type "list"], []⟩) (fun _ R s => s.heap.get? a = some { cls := .type "list", dict := none, data := .seq xs k, slots := sl } ∧
      R (.ok (.ret (.ref s.heap.objs.size))) { s with heap := s.heap.push { cls := .type "builtin_function_or_method", data := .fields #[.builtin "list.append", .ref a] } }) :=
  Meets.of_wp fun prog w A R s hs => by
    obtain ⟨hp, g, d, tk, os⟩ := s
    obtain ⟨hx, hs⟩ := hs
    have hT : (⟨hp, g, d, tk, os⟩ : Shared).TypeIs (.ref a) "list" := ⟨_, hx, rfl⟩
    have f1 := isa_list
    unfold Builtin.«method_descriptor.__get__»
    repeat (any_goals (first | assumption | wp_step))
    rw [show (".".intercalate ("list.append".cutAt '.').dropLast) = "list" by decide +kernel]
    repeat (any_goals (first | assumption | wp_step))
    exact ⟨_, rfl, hs⟩

theorem slot_md_get : Slot "method_descriptor" "__get__" "method_descriptor.__get__" :=
  .of (owner := "method_descriptor") (n := "__get__") (by rw [typeLookup_type, builtinLookup_eq_fast]; kernel_rfl) (by decide +kernel) (by decide +kernel) (by decide +kernel)
    (by first | exact .inl (by decide +kernel) | exact .inr (by decide +kernel)) (by rw [isSubtype_type]; kernel_rfl)
theorem args_md_get (a b c : Value) : argsOk "method_descriptor.__get__" ⟨[a, b, c], []⟩ := by
  unfold argsOk; kernel_rfl
set_option maxHeartbeats 2000000 in
theorem meets_getattribute_append (a : Addr) (xs : Array Value) (k : Nat) (sl : Array (Option Value)) (u : Tok) :
    Meets (Builtin.«object.__getattribute__» ⟨[.ref a, .str "append" u], []⟩) (fun _ R s => s.heap.get? a = some { cls := .type "list", dict := none, data := .seq xs k, slots := sl } ∧
      R (.ok (.ret (.ref s.heap.objs.size))) { s with heap := s.heap.push { cls := .type "builtin_function_or_method", data := .fields #[.builtin "list.append", .ref a] } }) :=
  Meets.of_wp fun prog w A R s hs => by
    obtain ⟨hp, g, d, tk, os⟩ := s
    obtain ⟨hx, hs⟩ := hs
    have hT : (⟨hp, g, d, tk, os⟩ : Shared).TypeIs (.ref a) "list" := ⟨_, hx, rfl⟩
    have f1 := slot_list_append.lookup
    have f2 := type_list_append
    have f3 := get_md
    have f4 := set_md
    have f5 := del_md
    unfold Builtin.«object.__getattribute__»
    have hTd : (⟨hp, g, d, tk, os⟩ : Shared).TypeIs (.builtin "list.append") "method_descriptor" := f2
    repeat (any_goals (first | assumption | ((with_reducible show wpAny _ _ (call (Value.builtin "method_descriptor.__get__") _ _) _ _ _); refine call_meets slot_md_get hTd entry_md_get (args_md_get _ _ _) (meets_md_get a xs k sl) ⟨hx, ?_⟩) | wp_step))
    exact wpAny_pure ⟨_, rfl, hs⟩

set_option maxHeartbeats 2000000 in
theorem getAttr_append {prog : Program} {w : World} {A : Around} {E : Value → Shared → Prop} {s : Shared} {a : Addr} {xs : Array Value} {k : Nat} {Q : Value → Shared → Prop}
    (hx : s.heap.get? a = some { cls := .type "list", data := .seq xs k })
    (h : ∀ tk, Q (.ref s.heap.objs.size) { s with heap := s.heap.push { cls := .type "builtin_function_or_method", data := .fields #[.builtin "list.append", .ref a] }, toks := tk }) :
    wpAny (model prog w) A (getAttr (.ref a) "append" true) Q E s := by
  obtain ⟨hp, g, d, tk, os⟩ := s
  have hT : ∀ tk', (⟨hp, g, d, tk', os⟩ : Shared).TypeIs (.ref a) "list" := fun _ => ⟨_, hx, rfl⟩
  have f3 := F.slot_list_getattribute.lookup
  have f4 := F.slot_list_getattribute.bind (.ref a)
  unfold getAttr getAttrBy
  repeat (any_goals (first | assumption | exact hT _ | ((with_reducible show wpAny _ _ (call (Value.builtin "list.__getattribute__") _ _) _ _ _); refine call_meets F.slot_list_getattribute (hT _) am_entry_list_getattribute (F.args_list_getattribute_2 _ _) (meets_getattribute_append a xs k _ _) ⟨hx, ?_⟩) | wp_step))
  exact wpAny_pure (h _)

theorem append_body {prog : Program} {w : World} {A : Around} {E : Value → Shared → Prop} {s : Shared} {l : Addr} {items : Array Value} {x : Value} {Q : Value → Shared → Prop} (hl : s.heap.PlainList l items)
    (hQ : ∀ h', h'.PlainList l (items.push x) → Heap.SameBut l s.heap h' → Q .none { s with heap := h' }) (hsz : items.size ≤ sizeLine) :
    wpAny (model prog w) A (Builtin.«list.append» ⟨[.ref l, x], []⟩) (fun fin s' => ∃ v, fin = .done (.ret v) ∧ Q v s') E s := by
  obtain ⟨n, ho⟩ := hl
  show wpAny _ _ (updateSeq l (·.push x) >>= fun _ => ret .none) _ _ s
  refine wpAny_bind ?_
  refine wpAny_updateSeq ho rfl (wpAny_pure ⟨.none, rfl, hQ _ ⟨n + 1, ?_⟩ (Heap.SameBut.update ..)⟩)
  rw [Heap.get?_update_self _ ho (by rw [Obj.mapSeq_push_plain]; rfl), Obj.mapSeq_push_plain]

theorem kind_append : builtinKind "list.append" = some .method := by decide +kernel
theorem vararg_append : Manifest.varargsMethods.contains "list.append" = false := by decide +kernel
theorem sub_list_module : isSubtype (.type "list") (.type "module") = pure false := by rw [isSubtype_type]; kernel_rfl
theorem sig_append (a b : Value) : ∃ sig, Manifest.signature? "list.append" = some sig ∧ Bind.checkArgs "list.append" { sig with full := s!"{Bind.lastOf "list"}.{Bind.lastOf "list.append"}" } ⟨[a, b], []⟩ = pure () :=
  ⟨_, by rw [signature?_of (id := "list.append") (n := ['d', 'n', 'e', 'p', 'p', 'a']) (o := ['t', 's', 'i', 'l']) (by kernel_rfl) F.owner_list]; rfl, by kernel_rfl⟩
theorem bound_check {prog : Program} {w : World} {A : Around} {E : Value → Shared → Prop} {s : Shared} {l : Addr} {items : Array Value} {x : Value} {Q : Unit → Shared → Prop} (hl : s.heap.PlainList l items) (h : Q () s) : wpAny (model prog w) A (checkBoundCall "list.append" ⟨[.ref l, x], []⟩) Q E s := by
  obtain ⟨sig, h1, h2⟩ := sig_append (.ref l) x
  have hT := hl.isList.typeIs (s := s)
  obtain ⟨n, ho⟩ := hl
  unfold checkBoundCall
  rw [h1, kind_append]
  dsimp only
  rw [if_neg (by decide), vararg_append]
  refine wpAny_bind (wpAny_isInstance hT sub_list_module ?_)
  simp only [Bool.false_or, Bool.false_eq_true, if_false]
  refine wpAny_bind (m := isType (.ref l)) (wpAny_bind (wpAny_load ho (wpAny_pure (a := false) ?_)))
  simp only [Bool.false_eq_true, if_false]
  refine wpAny_bind (wpAny_typeOf hT ?_)
  show wpAny _ _ (Bind.checkArgs "list.append" { sig with full := s!"{Bind.lastOf "list"}.{Bind.lastOf "list.append"}" } ⟨[.ref l, x], []⟩) _ _ _
  rw [h2]
  exact wpAny_pure h
theorem call_bound {prog : Program} {w : World} {A : Around} {E : Value → Shared → Prop} {s : Shared} {l b : Addr} {items : Array Value} {x : Value} {Q : Value → Shared → Prop} (hb : s.heap.get? b = some { cls := .type "builtin_function_or_method", data := .fields #[.builtin "list.append", .ref l] }) (hl : s.heap.PlainList l items)
    (hQ : ∀ h', h'.PlainList l (items.push x) → Heap.SameBut l s.heap h' → Q .none { s with heap := h' }) (hsz : items.size ≤ sizeLine) : wpAny (model prog w) A (call (.ref b) [x]) Q E s := by
  refine wpAny_call ?_
  refine codeAny_of_tree ?_
  show wpAny _ _ (callAny (.ref b) ⟨[x], []⟩) _ _ s
  unfold callAny
  refine wpAny_bind (wpAny_load hb ?_)
  show wpAny _ _ (checkBoundCall "list.append" ⟨[.ref l, x], []⟩ >>= fun _ => again (.builtin "list.append" ⟨[.ref l, x], []⟩)) _ _ s
  refine wpAny_bind (bound_check hl ?_)
  refine wpAny_pure ⟨plainId_quiet (by decide +kernel) _, codeAny_builtin F.entry_list_append ?_⟩
  rw [Around.under_plainId (by decide +kernel) _]
  refine wpAny_mono (append_body (E := E) hl hQ hsz) (fun fin s' h => ?_) fun _ _ e => e
  obtain ⟨v, rfl, h⟩ := h
  exact h
end Mine
end

-- the text M24
section
open PySem PySem.Calls PySem.W PyProof.Rows
set_option maxRecDepth 100000
namespace Mine
section
variable {prog : Program} {w : World} {K : Frag} {n : Nat} {sx : Sx} {S : State} {Q : Fl → State → Prop}

theorem ev_bound {x : Str} {xp pos : Pos} {k : Nat} {l : List V} (h1 : Evals prog w K n sx S (.Name x xp) (.mu k)) (hm : S.muts[k]? = some (.list l)) : Evals prog w K n sx S (.Attribute (.Name x xp) "append" pos) (.bm k) := by
  intro A c G ad s R C hsc st
  show wpAny _ A (do
    let o ← attributeBase (.Name x xp) "append" c.env (eval (.Name x xp) c.env)
    standAt pos.atName
    let r ← holding [o] (getAttr o "append" true)
    letTemporaryGo (.Name x xp) o r
    pure r) _ _ s
  show wpAny _ A (eval (.Name x xp) c.env >>= _) _ _ s
  refine wpAny_bind (wpg (h1 A c G ad s R C hsc st) fun y s₁ G₁ g₁ e₁ => ?_)
  obtain ⟨a, ea, rfl⟩ := e₁
  have st₁ := st.step C g₁
  obtain ⟨a', vs, ea', ⟨m, ho⟩, hv⟩ := st₁.mt k _ hm
  rw [ea] at ea'; cases ea'
  refine wpAny_bind (wpAny_standAt (wpAny_bind (wpAny_holding (getAttr_append ho fun tk => ?_))))
  refine wpAny_bind (wpAny_pure (wpAny_pure ?_))
  have hnew : New s₁.heap s₁.heap.objs.size := new_size _
  exact ⟨_, g₁.trans ((Same.push s₁ _ tk).growPut st₁.sub hnew (Heap.get?_push_size _ rfl)), a, s₁.heap.objs.size, ea, rfl, PH.put_self _ _ _⟩

theorem callWith_bm {A : Around} {E : Value → Shared → Prop} {s : Shared} {pos : Pos} {b a : Addr} {t : Sem Value} {P : Value → Shared → Prop}
    (h : wpAny (model prog w) A t (fun v s₁ => s₁.heap.get? b = some { cls := .type "builtin_function_or_method", data := .fields #[.builtin "list.append", .ref a] } ∧ wpAny (model prog w) A (call (.ref b) [v]) P E s₁) E s) :
    wpAny (model prog w) A (callWith pos (.ref b) [] [(false, t)] []) P E s := by
  unfold callWith
  refine wpAny_bind (wpAny_holding (Calls.evalArgs_plain (Calls.spliced_cons (wpAny_mono h (fun v s₁ h₁ => Calls.spliced_nil ?_) fun _ _ e => e))))
  obtain ⟨hb, hc⟩ := h₁
  refine wpAny_bind (wpAny_standAt ?_)
  dsimp only
  refine wpAny_bind (m := keeperOf (.ref b)) (wpAny_bind (wpAny_load hb (wpAny_pure (a := Keeper.machine) ?_)))
  refine wpAny_bind (wpAny_mono hc (fun r s₂ h₂ => wpAny_bind (wpAny_holding (wpAny_point (wpAny_pure h₂)))) fun _ _ e => e)

theorem run_add {fn e : Expr} {cpos epos : Pos} {k : Nat} {v : V} {l : List V} (hf : Evals prog w K n sx S fn (.bm k)) (he : Evals prog w K n sx S e v) (hm : S.muts[k]? = some (.list l)) (hl : l.length ≤ 100000) (h : Q .next (S.upd k (.list (l ++ [v]))))
    (htrees : ∀ env, backTo cpos (starEach [e] env) = [(false, eval e env)] := by intro _; rfl)
    (hsw : ∀ env, swapsWith (.Call fn [e] [] cpos) none epos.line env = pure false := by intro _; rfl)
    (hcall : ∀ env, eval (.Call fn [e] [] cpos) env = (do callWith cpos (← eval fn env) [] (backTo cpos (starEach [e] env)) (backToKw cpos (keywordEach [] env))) := by intro _; rfl) :
    Run1 prog w K n sx S (.Expr (.Call fn [e] [] cpos) epos) Q := by
  intro A c G ad s R C hsc st
  have hi : interactive c.env = false := by
    unfold interactive
    rw [C.kind]; rfl
  refine wpAny_Expr ?_ hi (hsw _)
  refine Call_ (wpg (hf A c G ad s R C hsc st) fun y s₁ G₁ g₁ e₁ => ?_) (hcall _)
  obtain ⟨a, b, ea, rfl, hb⟩ := e₁
  rw [htrees]
  have st₁ := st.step C g₁
  refine callWith_bm (a := a) (wpg (he A c G₁ ad s₁ R C hsc st₁) fun y s₂ G₂ g₂ e₂ => ?_)
  have st₂ := st₁.step C g₂
  refine ⟨g₂.sub _ _ (g₂.le _ _ hb), ?_⟩
  obtain ⟨a', vs, ea', hp, hv⟩ := st₂.mt k _ hm
  rw [ea] at ea'; cases ea'
  have hsz : vs.size ≤ sizeLine := by have := hv.length; simp at this; rw [sizeLine_eq]; exact (lin [_, _] (.v 0) (.n 16777216) (.s 1 (.v 1) (.n 100000) (.e 1 0 (.v 0) (.v 1) .z)) rfl hl this)
  refine call_bound (g₂.sub _ _ (g₂.le _ _ hb)) hp (fun h' hl' hs => ?_) hsz
  have st₃ := st₂.turn C (k := k) (a := a) (l := l) (l' := l ++ [v]) (h' := h') (t := s₂.toks) (vs' := vs.push y) hm ea hl' hs (by rw [Array.toList_push]; exact hv.append (.cons e₂ .nil))
  exact ⟨G₂, ad, _, st₃, (g₁.trans g₂).step.trans (turn_step hm ea hs), h⟩
end
end Mine
end

-- the text M25
section
open PySem PySem.Calls PySem.W PyProof.Rows
open Builtin Builtin.Str StrLaws
set_option maxRecDepth 100000
namespace Mine

noncomputable def fnd (l : List Nat) (c lo hi : Nat) : Option Nat := (List.range' lo (hi - lo)).find? fun i => l[i]? == some c
noncomputable def fndI (l : List Nat) (c lo hi : Nat) : Int := match fnd l c lo hi with
  | some i => (i : Int)
  | none => -1
theorem gives_find4 (x y : Str) (i j : Int) (t u v z : Tok) : PySem.Gives («str.find» ⟨[.str x t, .str y u, .int i v, .int j z], []⟩) (.int (match occurrences x y (fromIndex x.length i) (min (fromIndex x.length j) x.length) 1 with | k :: _ => (k : Int) | [] => -1)) := by
  show PySem.Gives (match occurrences x y (fromIndex x.length i) (min (fromIndex x.length j) x.length) 1 with | k :: _ => retInt k | [] => (do rule "str.find.not-found"; retInt (-1))) _
  cases occurrences x y (fromIndex x.length i) (min (fromIndex x.length j) x.length) 1 with
  | nil => exact .rule (.of_eq rfl)
  | cons k _ => exact .of_eq rfl
theorem fromIndex_nat (n k : Nat) : fromIndex n (k : Int) = k := by
  unfold fromIndex
  rw [if_neg (by simp)]
  (first | rfl | decide)
theorem at_one (l : List Nat) (c hi i : Nat) (hh : hi ≤ l.length) : At (sl l) (sl [c]) hi i ↔ i < hi ∧ l[i]? = some c := by
  unfold At
  constructor
  · intro ⟨h1, h2⟩
    rw [sl_len] at h1
    simp only [List.length_cons, List.length_nil] at h1
    have := (subAt_one (sl l) c i).mp ⟨by show i + 1 ≤ (sl l).length; rw [sl_len]; exact (lin [_, _, _] (.a (.v 0) (.n 1)) (.v 1) (.s 1 (.v 2) (.v 1) (.s 1 (.a (.v 0) (.a (.n 0) (.n 1))) (.v 2) .z)) rfl hh h1), h2⟩
    exact ⟨by exact (lin [_, _] (.a (.v 0) (.n 1)) (.v 1) (.s 1 (.a (.v 0) (.a (.n 0) (.n 1))) (.v 1) .z) rfl h1), by simpa using this⟩
  · intro ⟨h1, h2⟩
    have := (subAt_one (sl l) c i).mpr (by simpa using h2)
    exact ⟨by rw [sl_len]; simp only [List.length_cons, List.length_nil]; exact (lin [_, _] (.a (.v 0) (.a (.n 0) (.n 1))) (.v 1) (.s 1 (.a (.v 0) (.n 1)) (.v 1) .z) rfl h1), this.2⟩
theorem occ_fnd (l : List Nat) (c lo hi : Nat) (hh : hi ≤ l.length) : (match occurrences (sl l) (sl [c]) lo hi 1 with | k :: _ => (k : Int) | [] => -1) = fndI l c lo hi := by
  rw [occ_eq]
  rcases occ_first (sl l) (sl [c]) hi 1 (Nat.le_refl 1) (List.range' lo (hi + 1 - lo)) lo (fun i hi => by have := List.mem_range'_1.mp hi; exact this.1) with ⟨h0, hn⟩ | ⟨pre, a, post, e, h0, ha, hn⟩
  · rw [h0]
    have : fnd l c lo hi = none := List.find?_eq_none.mpr fun i hi' => by
      have hm := List.mem_range'_1.mp hi'
      have := hn i (List.mem_range'_1.mpr (by omega))
      rw [at_one l c hi i hh] at this
      intro q
      exact this ⟨by omega, by simpa using q⟩
    unfold fndI
    rw [this]
  · have hs := range'_split_from e
    rw [at_one l c hi a hh] at ha
    have hf : fnd l c lo hi = some a := by
      unfold fnd
      have e2 : List.range' lo (hi - lo) = List.range' lo (a - lo) ++ a :: List.range' (a + 1) (hi - a - 1) := by
        have h1 : hi - lo = (a - lo) + ((hi - a - 1) + 1) := by exact (Nat.le_antisymm (lin [_, _, _, _, _, _, _] (.v 0) (.a (.v 1) (.a (.v 2) (.n 1))) (.s 1 (.v 3) (.a (.v 1) (.v 4)) (.s 1 (.v 5) (.a (.v 2) (.n 1)) (.s 1 (.v 6) (.a (.v 5) (.v 3)) (.e 1 0 (.a (.v 0) (.v 4)) (.v 6) .z)))) rfl (subx _ _) (subx _ _) (subx _ _) (Nat.sub_add_cancel (lin [_, _, _] (.v 0) (.v 1) (.s 1 (.a (.v 2) (.n 1)) (.v 1) (.s 1 (.v 0) (.v 2) .z)) rfl ha.1 hs.1))) (lin [_, _, _, _, _, _, _] (.a (.v 0) (.a (.v 1) (.n 1))) (.v 2) (.s 1 (.v 3) (.a (.v 2) (.v 4)) (.e 1 0 (.a (.v 0) (.v 4)) (.v 5) (.e 1 0 (.a (.v 1) (.n 1)) (.v 6) (.e 1 0 (.a (.v 6) (.v 5)) (.v 3) .z)))) rfl (subx _ _) (Nat.sub_add_cancel hs.1) (Nat.sub_add_cancel (lin [_, _, _] (.n 1) (.v 0) (.s 1 (.a (.v 1) (.n 1)) (.v 2) (.s 1 (.v 2) (.a (.v 0) (.v 1)) .z)) rfl ha.1 (subx _ _))) (Nat.sub_add_cancel (lin [_, _] (.v 0) (.v 1) (.s 1 (.a (.v 0) (.n 1)) (.v 1) .z) rfl ha.1))))
        rw [h1, ← List.range'_append_1, List.range'_succ]
        congr 2
        all_goals first | omega | (congr 1; exact (Nat.le_antisymm (lin [_, _, _] (.a (.a (.v 0) (.v 1)) (.n 1)) (.a (.v 2) (.n 1)) (.e 1 0 (.a (.v 1) (.v 0)) (.v 2) .z) rfl (Nat.sub_add_cancel hs.1)) (lin [_, _, _] (.a (.v 0) (.n 1)) (.a (.a (.v 1) (.v 2)) (.n 1)) (.s 1 (.v 0) (.a (.v 2) (.v 1)) .z) rfl (subx _ _))))
      rw [e2, List.find?_append]
      have : (List.range' lo (a - lo)).find? (fun i => l[i]? == some c) = none := List.find?_eq_none.mpr fun i hi' => by
        have hm := List.mem_range'_1.mp hi'
        have := hn i (hs.2 i hm.1 (by exact (lin [_, _, _, _] (.a (.v 0) (.n 1)) (.v 1) (.s 1 (.a (.v 0) (.n 1)) (.a (.v 2) (.v 3)) (.e 1 0 (.a (.v 3) (.v 2)) (.v 1) .z)) rfl hm.2 (Nat.sub_add_cancel hs.1))))
        rw [at_one l c hi i hh] at this
        intro q
        exact this ⟨by exact (lin [_, _, _, _, _] (.a (.v 0) (.n 1)) (.v 1) (.s 1 (.a (.v 2) (.n 1)) (.v 1) (.s 1 (.a (.v 0) (.n 1)) (.a (.v 3) (.v 4)) (.e 1 0 (.a (.v 4) (.v 3)) (.v 2) .z))) rfl ha.1 hm.2 (Nat.sub_add_cancel hs.1)), by simpa using q⟩
      rw [this, List.find?_cons]
      simp [ha.2]
    unfold fndI
    rw [hf]
    generalize (forIn (List.range' lo (hi + 1 - lo)) ((#[] : Array Nat), lo) (occBody (sl l) (sl [c]) hi 1)).run.fst = arr at h0
    have h1 : arr.toList[0]? = some a := by simpa using h0
    cases hL : arr.toList with
    | nil => rw [hL] at h1; cases h1
    | cons b t => rw [hL] at h1; simp at h1; rw [h1]

section
variable {prog : Program} {w : World} {K : Frag} {n : Nat} {sx : Sx} {S : State}
theorem ev_find4 {o e1 e2 e3 : Expr} {apos pos : Pos} {l : List Nat} {c lo hi : Nat} (ho : Evals prog w K n sx S o (.d (ds l))) (h1 : Evals prog w K n sx S e1 (.d (ds [c]))) (h2 : Evals prog w K n sx S e2 (.d (dz lo))) (h3 : Evals prog w K n sx S e3 (.d (dz hi))) (hh : hi ≤ l.length)
    (s1 : ∀ env, starEach [e1, e2, e3] env = (false, eval e1 env) :: starEach [e2, e3] env := by intro _; rfl) (s2 : ∀ env, starEach [e2, e3] env = (false, eval e2 env) :: starEach [e3] env := by intro _; rfl) (s3 : ∀ env, starEach [e3] env = (false, eval e3 env) :: starEach [] env := by intro _; rfl)
    (hbase : ∀ env, attributeBase o "find" env (eval o env) = eval o env := by intro _; rfl) (hline : (apos.endLine == pos.line) = true := by rfl)
    (hfew : ∀ env, ((backTo pos (starEach [e1, e2, e3] env)).all (fun x => !x.1) && (backToKw pos (keywordEach [] env)).all (fun x => x.1.isSome) && decide ([e1, e2, e3].length + ([] : List Keyword).length + (if ([] : List Keyword).isEmpty then 0 else 1) < 30)) = true := by intro _; rfl)
    (hplain : ∀ env, (backTo pos (starEach [e1, e2, e3] env)).any (·.1) = false := by intro _; rfl) : Evals prog w K n sx S (.Call (.Attribute o "find" apos) [e1, e2, e3] [] pos) (.d (.int (fndI l c lo hi))) := by
  refine ev_smeth (as := [ds [c], dz lo, dz hi]) F.slot_str_find F.type_str_find ho (evl_cons h1 (evl_cons h2 (evl_cons h3 evl_nil s3) s2) s1) ?_ s1 hbase hline hfew hplain
  intro A X G s t vs R sub h
  obtain ⟨_, _, rfl, h1, h2⟩ := IsL.inv h
  have hx_ := h2; clear h2; obtain ⟨_, _, rfl, h2, h3⟩ := IsL.inv hx_; clear hx_
  have hx_ := h3; clear h3; obtain ⟨_, _, rfl, h3, h4⟩ := IsL.inv hx_; clear hx_
  obtain rfl := IsL.inv h4; obtain ⟨_, rfl⟩ := Is.inv h1; obtain ⟨_, rfl⟩ := Is.inv h2; obtain ⟨_, rfl⟩ := Is.inv h3
  refine call_gives F.slot_str_find (typeIs_str _ _ _) F.entry_str_find (F.args_str_find_4 _ _ _ _) (gives_find4 _ _ _ _ _ _ _ _) ?_
  rw [fromIndex_nat, fromIndex_nat, sl_len, Nat.min_eq_left hh, occ_fnd l c lo hi hh]
  exact ⟨G, (Same.toks s _).grow sub, .int _ _⟩

theorem contains_one (l : List Nat) (c : Nat) : Txt.contains (sl l) (sl [c]) = decide (c ∈ l) := by
  have := found_one (sl l) c
  rw [Txt.contains, show (sl [c]) = (⟨#[c]⟩ : Str) from rfl, this]
end
end Mine
end

-- the text N1
section
open PySem PySem.Calls PySem.W PyProof.Rows
set_option maxRecDepth 100000
namespace Mine
section
variable {prog : Program} {w : World}

noncomputable def kindSigns : List Nat := [63, 112, 99, 63, 100, 63, 98, 63, 45, 63, 108, 63, 115, 63, 63, 63]
set_option maxHeartbeats 2000000 in
theorem spec_kind {k : Nat} (hk : k < 16) : Spec prog w (KK w) 1 121 [dz k] (ds [kindSigns.getD k 0]) := by
  refine spec_intro (names := ["kind"]) (by rfl) (by kernel_rfl) (by rfl) ?_ (by decide) (by rfl) (by decide +kernel) (by rfl) (by rfl) (by rfl) (by rfl) (by rfl) (by decide +kernel) ?_
  · exact vs1 fun a => rfl
  · exact runs_cons (run_ret (sidx (st kindSigns) lv hk (by decide)) rfl)

noncomputable def sixOf (x : Nat) : Nat := x % 64 + 128 * (x / 64 % 2)
noncomputable def packed (l : List Nat) : List Nat := (l.take 2).map (fun x => 64 + x % 64 + 128 * (x / 64 % 2)) ++ (l.drop 2).map fun x => x % 64 + 128 * (x / 64 % 2)
set_option maxHeartbeats 4000000 in
theorem spec_packed {l : List Nat} (hl : l.length ≤ 100) : Spec prog w (KK w) 1 114 [.list (nz l)] (.list (nz (packed l))) := by
  refine spec_intro (names := ["three"]) (by rfl) (by kernel_rfl) (by rfl) ?_ (by decide) (by rfl) (by decide +kernel) (by rfl) (by rfl) (by rfl) (by rfl) (by rfl) (by decide +kernel) ?_
  · exact vs1 fun a => rfl
  · refine runs_cons ?_
    refine run_comp1 [] (l.take 2) dz (fun x => dz (64 + x % 64 + 128 * (x / 64 % 2))) (src_of (ev_slice_list lv .none (.some ev_int) ?_) ?_) (scopeOk [] .nil) ?_ ?_ ?_ ?_
    · simpa using seg_len (by omega)
    · rw [slc_map, show (2 : Int) = ((2 : Nat) : Int) from rfl, slc_to]; exact iters_list (seg_len (by simp; exact (lin [_] (.v 0) (.n 100000) (.s 1 (.v 0) (.n 2) .z) rfl (Nat.min_le_left _ _))))
    · intro a ha
      exact nadd (nadd (nt 64) (nmod lv (nt 64))) (nmul (nt 128) (nmod (ndiv lv (nt 64)) (nt 2)))
    · exact seg_len (by simp; exact (lin [_] (.v 0) (.n 100000) (.s 1 (.v 0) (.n 2) .z) rfl (Nat.min_le_left _ _)))
    · exact swaps_of
    · refine runs_cons (run_ret (ev_binop lv (ev_comp1 [] (l.drop 2) dz (fun x => dz (x % 64 + 128 * (x / 64 % 2))) (src_of (ev_slice_list lv (.some ev_int) .none ?_) ?_) (scopeOk [] .nil) ?_ ?_) (op_add_list ?_)) ?_)
      · simpa using seg_len (by omega)
      · rw [slc_map, show (2 : Int) = ((2 : Nat) : Int) from rfl, slc_from]; exact iters_list (seg_len (by simp; omega))
      · intro a ha
        exact nadd (nmod lv (nt 64)) (nmul (nt 128) (nmod (ndiv lv (nt 64)) (nt 2)))
      · exact seg_len (by simp; omega)
      · simp; rw [sizeLine_eq]; exact (lin [_, _, _] (.a (.v 0) (.v 1)) (.n 16777216) (.s 1 (.v 2) (.n 100) (.s 1 (.v 0) (.n 2) (.s 1 (.v 1) (.v 2) .z))) rfl hl (Nat.min_le_left _ _) (Nat.sub_le _ _))
      · simp only [packed, nz, List.map_append, List.map_map]; rfl

theorem ev_compf2 {K : Frag} {n : Nat} {sx : Sx} {S : State} {α : Type} {x y : Str} {k : Nat} {xp yp tp : Pos} {elt iter test : Expr} {scope : Scope} {pos : Pos} (fv : List (Str × D)) (as : List α) (g1 g2 f : α → D) (p : α → Bool) (hsrc : Src prog w K n sx S (.Tuple [.Name x xp, .Name y yp] k tp) iter (as.map fun a => .tuple [g1 a, g2 a])) (so : ScopeOk sx S scope fv)
    (ht : ∀ a ∈ as, Tests prog w K n (sxComp sx scope) ⟨[(y, V.d (g2 a)), (x, V.d (g1 a))] ++ (fv.map fun p => (p.1, V.d p.2)), []⟩ test (p a))
    (helt : ∀ a ∈ as, p a = true → Evals prog w K n (sxComp sx scope) ⟨[(y, V.d (g2 a)), (x, V.d (g1 a))] ++ (fv.map fun p => (p.1, V.d p.2)), []⟩ elt (.d (f a))) (hlen : as.length ≤ sizeLine) (hk : (sxComp sx scope).scope.names.lookup x = some .local := by rfl) (hk2 : (sxComp sx scope).scope.names.lookup y = some .local := by rfl) (hxf : fv.lookup x = none := by rfl) (hyf : fv.lookup y = none := by rfl)
    (hs : ∀ env x, foldedSetIterable iter env x = pure x := by intro _ _; rfl) : Evals prog w K n sx S (.ListComp elt [⟨.Tuple [.Name x xp, .Name y yp] k tp, iter, [test], 0⟩] scope pos) (.d (.list ((as.filter p).map f))) :=
  ev_comp fv hsrc (loop_filter f p (fun d => match d with | .tuple [a, b] => [(x, a), (y, b)] | _ => []) [x, y] (fun a _ => binds_tuple unpacks_tuple (bindsL_cons (binds_name hk) (bindsL_cons (binds_name hk2) bindsL_nil))) (fun _ _ => rfl)
    (fun z hz => by
      rcases List.mem_cons.mp hz with rfl | hz
      · exact hxf
      · rw [List.mem_singleton.mp hz]; exact hyf) ht helt) (by rw [List.length_map]; exact Nat.le_trans (List.length_filter_le ..) hlen) so.kind so.cell so.names so.free so.fv hs

noncomputable def od : Option Nat → D
  | none => .none
  | some k => dz k
noncomputable abbrev wishD (l : List (Option Nat)) : D := .list (l.map od)
noncomputable def figuresOf (m : Nat) : List Nat := [m / 4096 % 16, m / 512 % 8, m / 64 % 8, m / 8 % 8, m % 8]
noncomputable def okFig (p : Option Nat × Nat) : Bool := p.1 == none || p.1 == some p.2
noncomputable def fits (l : List (Option Nat)) (m : Nat) : Bool := (l.zip (figuresOf m)).all okFig
theorem any_od (a : Option Nat) (f : Nat) : ([D.none, dz f].any fun d => eqD d (od a)) = okFig (a, f) := by
  cases a with
  | none => rfl
  | some k =>
    show (eqD .none (dz k) || (eqD (dz f) (dz k) || false)) = _
    show (false || (((f : Int) == (k : Int)) || false)) = (some k == none || some k == some f)
    rw [int_eq_nat]
    by_cases h : f = k
    · subst h; simp
    · have h' : ¬ k = f := fun q => h q.symm
      rw [beq_eq_false_iff_ne.mpr h]; simp [h']
set_option maxHeartbeats 4000000 in
theorem spec_fits {l : List (Option Nat)} {m : Nat} (hl : l.length ≤ 100) : Spec prog w (KK w) 1 148 [wishD l, dz m] (.bool (fits l m)) := by
  refine spec_intro (names := ["wish", "number"]) (by rfl) (by kernel_rfl) (by rfl) ?_ (by decide) (by rfl) (by decide +kernel) (by rfl) (by rfl) (by rfl) (by rfl) (by rfl) (by decide +kernel) ?_
  · exact vs2 fun a b => rfl
  · refine runs_cons (run_assign (v := .d (.list (nz (figuresOf m)))) (ev_list (evl_cons (nmod (ndiv lv (nt 4096)) (nt 16)) (evl_cons (nmod (ndiv lv (nt 512)) (nt 8)) (evl_cons (nmod (ndiv lv (nt 64)) (nt 8)) (evl_cons (nmod (ndiv lv (nt 8)) (nt 8)) (evl_cons (nmod lv (nt 8)) evl_nil))))) (seg_len (by simp [figuresOf]))) (by rfl) ?_)
    refine runs_cons (run_ret (d := .bool (fits l m)) ?_ rfl)
    have e : fits l m = (((l.zip (figuresOf m)).filter fun p => !okFig p).map fun _ => dz 1).isEmpty := by
      unfold fits
      generalize l.zip (figuresOf m) = z
      clear hl
      induction z with
      | nil => rfl
      | cons p z ih =>
        rw [List.all_cons, List.filter_cons]
        cases okFig p with
        | false => rfl
        | true => simpa using ih
    rw [e]
    refine ev_cmp (ev_compf2 [] (l.zip (figuresOf m)) (fun p => od p.1) (fun p => dz p.2) (fun _ => dz 1) (fun p => !okFig p) ?_ (scopeOk [] .nil) ?_ ?_ ?_) (ev_list evl_nil (by simp)) op_eq_list_nil
    · rw [show (l.zip (figuresOf m)).map (fun p => D.tuple [od p.1, dz p.2]) = zipD (l.map od) (nz (figuresOf m)) by
        simp only [zipD, nz, List.zip_map, List.map_map]; rfl]
      exact src_zip bv lv lv
    · intro p hp
      rw [← any_od]
      exact tests_cmp lv (ev_tuple (ds := [.none, dz p.2]) (evl_cons ev_none (evl_cons lv evl_nil)) (seg_len (by simp))) (op_notin_tuple (fun d hd => by
        rcases List.mem_cons.mp hd with rfl | hd
        · cases p.1 <;> rfl
        · rw [List.mem_singleton.mp hd]; cases p.1 <;> rfl))
    · intro p hp _
      exact nt 1
    · exact seg_len (by simp; exact (lin [_, _] (.v 0) (.n 100000) (.s 1 (.v 1) (.n 100) (.s 1 (.v 0) (.v 1) .z)) rfl hl (Nat.min_le_left _ _)))
end
end Mine
end

-- the text N2
section
open PySem PySem.Calls PySem.W PyProof.Rows
set_option maxRecDepth 100000
namespace Mine
section
variable {prog : Program} {w : World}
theorem slen {K : Frag} {n : Nat} {sx : Sx} {S : State} {fn e : Expr} {pos : Pos} {l : List Nat} (hf : Evals prog w K n sx S fn (.d (.raw (.builtin "len")))) (h : Evals prog w K n sx S e (.d (ds l))) (hb : l.length ≤ 100000)
    (hst : ∀ env, starEach [e] env = (false, eval e env) :: starEach [] env := by intro _; rfl) (hplain : ∀ env, (backTo pos (starEach [] env)).any (·.1) = false := by intro _; rfl)
    (he : ∀ env, eval (.Call fn [e] [] pos) env = (do callWith pos (← eval fn env) [] (backTo pos (starEach [e] env)) (backToKw pos (keywordEach [] env))) := by intro _; rfl) : Evals prog w K n sx S (.Call fn [e] [] pos) (.d (dz l.length)) :=
  ev_bcall (ds := [_]) hf (evl_cons h evl_nil hst) (bc_len_str (seg_len hb)) hst hplain he
theorem llen {K : Frag} {n : Nat} {sx : Sx} {S : State} {fn e : Expr} {pos : Pos} {l : List D} (hf : Evals prog w K n sx S fn (.d (.raw (.builtin "len")))) (h : Evals prog w K n sx S e (.d (.list l))) (hb : l.length ≤ 100000)
    (hst : ∀ env, starEach [e] env = (false, eval e env) :: starEach [] env := by intro _; rfl) (hplain : ∀ env, (backTo pos (starEach [] env)).any (·.1) = false := by intro _; rfl)
    (he : ∀ env, eval (.Call fn [e] [] pos) env = (do callWith pos (← eval fn env) [] (backTo pos (starEach [e] env)) (backToKw pos (keywordEach [] env))) := by intro _; rfl) : Evals prog w K n sx S (.Call fn [e] [] pos) (.d (dz l.length)) :=
  ev_bcall (ds := [_]) hf (evl_cons h evl_nil hst) (bc_len_list (seg_len hb)) hst hplain he

noncomputable def signAt (t : List Nat) (p : Nat) : Nat × Nat := if t.getD p 0 == 92 then (t.getD (p + 1) 0, p + 2) else (t.getD p 0, p + 1)
theorem one_beq (a b : Nat) : ([a] == [b]) = (a == b) := by
  rw [Bool.eq_iff_iff]; simp
set_option maxHeartbeats 4000000 in
theorem spec_sign {t : List Nat} {p : Nat} (hp : p < t.length) (hp2 : t.getD p 0 = 92 → p + 1 < t.length) (hb : t.length ≤ 100000) : Spec prog w (KK w) 1 160 [ds t, dz p] (.tuple [ds [(signAt t p).1], dz (signAt t p).2]) := by
  refine spec_intro (names := ["text", "place"]) (by rfl) (by kernel_rfl) (by rfl) ?_ (by decide) (by rfl) (by decide +kernel) (by rfl) (by rfl) (by rfl) (by rfl) (by rfl) (by decide +kernel) ?_
  · exact vs2 fun a b => rfl
  · refine runs_cons (run_if (b := t.getD p 0 == 92) ?_ (fun h => ?_) fun h => ?_)
    · rw [← one_beq]; exact seq (sidx lv lv hp hb) (st [92])
    · have e : signAt t p = (t.getD (p + 1) 0, p + 2) := by unfold signAt; rw [h]; rfl
      rw [e]
      exact runs_cons (run_ret (ev_tuple (ds := [_, _]) (evl_cons (sidx lv (nadd lv (nt 1)) (hp2 (by simpa using h)) hb) (evl_cons (nadd lv (nt 2)) evl_nil)) (seg_len (by simp))) rfl)
    · have e : signAt t p = (t.getD p 0, p + 1) := by unfold signAt; rw [h]; rfl
      rw [e]
      refine runs_nil ?_
      exact runs_cons (run_ret (ev_tuple (ds := [_, _]) (evl_cons (sidx lv lv hp hb) (evl_cons (nadd lv (nt 1)) evl_nil)) (seg_len (by simp))) rfl)

theorem range_get {n i a : Nat} (h : (List.range n)[i]? = some a) : a = i ∧ i < n := by
  have := List.getElem?_eq_some_iff.mp h
  obtain ⟨h1, h2⟩ := this
  simp at h1 h2
  exact ⟨(Eq.symm h2), h1⟩
noncomputable abbrev rngD (r : Nat × Nat) : D := .tuple [ds [r.1], ds [r.2]]
noncomputable abbrev setD (s : List (Nat × Nat)) : D := .list (s.map rngD)
noncomputable abbrev setsD (s : List (List (Nat × Nat))) : D := .list (s.map setD)
noncomputable def inSet (s : List (Nat × Nat)) (c : Nat) : Bool := s.any fun r => decide (r.1 ≤ c) && decide (c ≤ r.2)
noncomputable def lies (sets : List (List (Nat × Nat))) (name : List Nat) (place : Nat) : Bool := decide (place + sets.length ≤ name.length) && (List.range sets.length).all fun k => inSet (sets.getD k []) (name.getD (place + k) 0)
theorem le_one (a b : Nat) : (!decide ((sl [b]).cps.toList < (sl [a]).cps.toList)) = decide (a ≤ b) := by
  have : (sl [b]).cps.toList = [b] := rfl
  have h2 : (sl [a]).cps.toList = [a] := rfl
  rw [this, h2]
  have h3 : ([b] < [a]) ↔ b < a := by
    constructor
    · intro h
      have h' : List.Lex (· < ·) [b] [a] := h
      cases h' with
      | rel q => exact q
      | cons q => cases q
    · intro h; exact List.Lex.rel h
  by_cases h : b < a
  · have h4 : [b] < [a] := h3.mpr h
    have h5 : ¬ a ≤ b := by exact (fun hq => (lif [_, _] (.s 1 (.a (.v 0) (.n 1)) (.v 1) (.s 1 (.v 1) (.v 0) .z)) rfl h hq))
    simp only [h4, h5, decide_true, decide_false]; rfl
  · have h4 : ¬ [b] < [a] := fun q => h (h3.mp q)
    have h5 : a ≤ b := by exact (lin [_, _] (.v 0) (.v 1) (.s 1 (.v 0) (.v 1) .z) rfl (nlt' h))
    simp only [h4, h5, decide_true, decide_false]; rfl
set_option maxHeartbeats 4000000 in
theorem spec_lies {sets : List (List (Nat × Nat))} {name : List Nat} {place : Nat} (h1 : sets.length ≤ 1000) (h2 : ∀ s ∈ sets, s.length ≤ 1000) (h3 : name.length ≤ 100000) : Spec prog w (KK w) 1 179 [setsD sets, ds name, dz place] (.bool (lies sets name place)) := by
  refine spec_intro (names := ["sets", "name", "place"]) (by rfl) (by kernel_rfl) (by rfl) ?_ (by decide) (by rfl) (by decide +kernel) (by rfl) (by rfl) (by rfl) (by rfl) (by rfl) (by decide +kernel) ?_
  · exact vs3 fun a b c => rfl
  · refine runs_cons (run_if (b := decide (name.length < place + sets.length)) ?_ (fun h => ?_) fun h => ?_)
    · refine ngt (nadd cv ?_) (slen bv cv h3)
      have e : sets.length = (sets.map setD).length := by simp
      rw [e]
      exact llen bv lv (by simp; omega)
    · have : lies sets name place = false := by unfold lies; simp at h; simp; intro; grind
      rw [this]
      exact runs_cons (run_ret ev_bool rfl)
    · refine runs_nil ?_
      have hle : place + sets.length ≤ name.length := by simpa using h
      refine runs_cons ?_
      refine run_forH (List.range sets.length) dz (fun d => [("k", d)]) (fun _ => entryS ["sets", "name", "place"] [setsD sets, ds name, dz place]) (fun i => ∀ k < i, inSet (sets.getD k []) (name.getD (place + k) 0) = true) ?_ ?_ (.refl _) ?_ ?_ ?_
      · rw [show (List.range sets.length).map dz = rngItems 0 1 sets.length from (rngItems_up _).symm]
        refine src_of (ev_tcall (ds := [dz sets.length]) bv (evl_cons ?_ evl_nil) bc_range1) (iters_range1 (by omega))
        have e : sets.length = (sets.map setD).length := by simp
        rw [e]
        exact llen bv lv (by simp; omega)
      · intro a ha; exact binds_cell (by rfl) (by rfl)
      · intro k hk; simp_all
      · intro i a ha hP
        have hai := range_get ha
        obtain ⟨rfl, hi⟩ := hai
        refine runs_cons (run_if (b := !inSet (sets.getD a []) (name.getD (place + a) 0)) ?_ (fun h => ?_) fun h => ?_)
        · have e : (!inSet (sets.getD a []) (name.getD (place + a) 0)) = (((sets.getD a []).filter fun r => decide (r.1 ≤ name.getD (place + a) 0) && decide (name.getD (place + a) 0 ≤ r.2)).map fun _ => dz 1).isEmpty := by
            unfold inSet
            generalize sets.getD a [] = z
            clear h2 h3 h1 hP ha hi
            induction z with
            | nil => rfl
            | cons p z ih =>
              rw [List.any_cons, List.filter_cons]
              cases decide (p.1 ≤ name.getD (place + a) 0) && decide (name.getD (place + a) 0 ≤ p.2) with
              | true => rfl
              | false => simpa using ih
          rw [e]
          have hmem : sets.getD a [] ∈ sets := by
            have := getD_some ([] : List (Nat × Nat)) hi
            exact List.mem_of_getElem? this
          refine tests_cmp (ev_compf2 [("name", ds name), ("place", dz place), ("k", dz a)] (sets.getD a []) (fun r => ds [r.1]) (fun r => ds [r.2]) (fun _ => dz 1) (fun r => decide (r.1 ≤ name.getD (place + a) 0) && decide (name.getD (place + a) 0 ≤ r.2)) ?_ (scopeOk ["name", "place", "k"] (.cons (by rfl) (.inl (by rfl)) (by rfl) (.cons (by rfl) (.inl (by rfl)) (by rfl) (.cons (by rfl) (.inl (by rfl)) (by rfl) .nil)))) ?_ ?_ ?_) (ev_list (ds := []) evl_nil (by simp)) op_eq_list_nil
          · refine src_of (lidx lv cv (by simpa using hi) (d := setD (sets.getD a [])) ?_ (by simp; omega)) (iters_list (seg_len (by rw [List.length_map]; have := h2 _ hmem; omega)))
            simp [hi]
          · intro r hr
            rw [← le_one, ← le_one]
            exact tests_chain lv (sidx cv (nadd cv cv) (by exact (lin [_, _, _, _] (.a (.a (.v 0) (.v 1)) (.n 1)) (.v 2) (.s 1 (.a (.v 0) (.v 3)) (.v 2) (.s 1 (.a (.v 1) (.n 1)) (.v 3) .z)) rfl hle hi)) h3) lv op_le_str op_le_str
          · intro r hr _
            exact nt 1
          · exact seg_len (by have := h2 _ hmem; omega)
        · have : lies sets name place = false := by
            have hq : inSet (sets.getD a []) (name.getD (place + a) 0) = false := by simpa using h
            unfold lies
            rw [Bool.and_eq_false_iff]
            right
            rw [List.all_eq_false]
            exact ⟨a, by simp [hi], by rw [hq]; simp⟩
          rw [this]
          exact runs_cons (run_ret ev_bool rfl)
        · refine runs_nil (runs_nil ⟨fun k hk => ?_, has rfl ⟨rfl, rfl, rfl, trivial⟩⟩)
          have hq : inSet (sets.getD a []) (name.getD (place + a) 0) = true := by simpa using h
          rcases Nat.lt_or_ge k a with q | q
          · exact hP k q
          · have : k = a := by exact (Nat.le_antisymm (lin [_, _] (.v 0) (.v 1) (.s 1 (.a (.v 0) (.n 1)) (.a (.v 1) (.n 1)) .z) rfl hk) q)
            subst this; exact hq
      · intro hP
        rw [List.length_range] at hP
        refine runs_nil ?_
        have : lies sets name place = true := by
          unfold lies
          simp only [hle, decide_true, Bool.true_and, List.all_eq_true, List.mem_range]
          exact hP
        rw [this]
        exact runs_cons (run_ret ev_bool rfl)
end
end Mine
end

-- the text N3
section
open PySem PySem.Calls PySem.W PyProof.Rows
set_option maxRecDepth 100000
namespace Mine
section
variable {prog : Program} {w : World}

abbrev Wish := Option (List (Option Nat))
noncomputable def starTxt : List Nat := [97, 32, 115, 116, 97, 114]
noncomputable def wishV : Wish → D
  | none => ds starTxt
  | some l => wishD l
noncomputable def optIf (b : Bool) (k : Nat) : Option Nat := if b then some k else none
noncomputable def wishFull (a b c : Nat) : List (Option Nat) :=
  [optIf (a / 128 % 2 == 0 && kindSigns.getD (a % 16) 0 != 63) (a % 16), optIf (b / 128 % 2 == 0) (b / 8 % 8), optIf (b / 256 % 2 == 0) (b % 8), optIf (c / 128 % 2 == 0) (c / 8 % 8), optIf (c / 256 % 2 == 0) (c % 8)]
noncomputable def wishesOf (a b c : Nat) : List Wish :=
  if a / 256 % 8 == 3 then [none, some (wishFull a b c)]
  else if a / 256 % 8 == 4 then [some (wishFull a b c), none]
  else if a / 256 % 8 == 5 then [none]
  else if a / 256 % 8 == 6 then []
  else if a / 256 % 8 == 7 then [some ((wishFull a b c).take 4 ++ [some ((c + 1) % 8)])]
  else [some (wishFull a b c)]

theorem ev_opt {K : Frag} {n : Nat} {sx : Sx} {S : State} {test body : Expr} {q : Nat} {pos cpos : Pos} {b : Bool} {k : Nat} (ht : Tests prog w K n sx S test b) (h : Evals prog w K n sx S body (.d (dz k))) : Evals prog w K n sx S (.IfExp test body (.Constant .none q cpos) pos) (.d (od (optIf b k))) :=
  ev_ifexp ht (fun e => by rw [e]; exact h) (fun e => by rw [e]; exact ev_none)
set_option maxHeartbeats 8000000 in
theorem spec_wishes {a b c : Nat} : Spec prog w (KK w) 2 128 [dz a, dz b, dz c] (.list ((wishesOf a b c).map wishV)) := by
  refine spec_intro (names := ["first", "second", "third"]) (by rfl) (by kernel_rfl) (by rfl) ?_ (by decide) (by rfl) (by decide +kernel) (by rfl) (by rfl) (by rfl) (by rfl) (by rfl) (by decide +kernel) ?_
  · exact vs3 fun a b c => rfl
  · refine runs_cons (run_assign (nmod lv (nt 16)) (by rfl) ?_)
    have hk : a % 16 < 16 := Nat.mod_lt _ (by decide)
    refine runs_cons (run_assignM (evM_list (vs := [.d (od (optIf (a / 128 % 2 == 0 && kindSigns.getD (a % 16) 0 != 63) (a % 16)))]) (evl_cons (ev_opt (tests_and (neq (nmod (ndiv lv (nt 128)) (nt 2)) (nt 0)) fun _ => ?_) lv) evl_nil) (seg_len (by simp))) (by rfl) ?_)
    · rw [show (kindSigns.getD (a % 16) 0 != 63) = ([kindSigns.getD (a % 16) 0] != [63]) by rw [bne, bne, one_beq]]
      exact sne (ev_call (ds := [_]) gv (evl_cons lv evl_nil) (by rfl) (spec_kind hk) (Nat.le_refl _) (KKtab w) ⟨_, _, rfl, fun _ => rfl⟩) (st [63])
    refine runs_cons (run_append lv (evM_of (ev_opt (b := b / 128 % 2 == 0) (neq (nmod (ndiv lv (nt 128)) (nt 2)) (nt 0)) (nmod (ndiv lv (nt 8)) (nt 8)))) (by rfl) (by rfl) (seg_len (by simp)) ?_)
    refine runs_cons (run_append lv (evM_of (ev_opt (b := b / 256 % 2 == 0) (neq (nmod (ndiv lv (nt 256)) (nt 2)) (nt 0)) (nmod lv (nt 8)))) (by rfl) (by rfl) (seg_len (by simp)) ?_)
    refine runs_cons (run_append lv (evM_of (ev_opt (b := c / 128 % 2 == 0) (neq (nmod (ndiv lv (nt 128)) (nt 2)) (nt 0)) (nmod (ndiv lv (nt 8)) (nt 8)))) (by rfl) (by rfl) (seg_len (by simp)) ?_)
    refine runs_cons (run_append lv (evM_of (ev_opt (b := c / 256 % 2 == 0) (neq (nmod (ndiv lv (nt 256)) (nt 2)) (nt 0)) (nmod lv (nt 8)))) (by rfl) (by rfl) (seg_len (by simp)) ?_)
    refine runs_freeze (k := 0) (ds := (wishFull a b c).map od) (by rfl) ?_
    refine runs_cons (run_assign (nmod (ndiv lv (nt 256)) (nt 8)) (by rfl) ?_)
    have star : ∀ {S : State} {sx : Sx} {k : Nat} {pos : Pos}, Evals prog w (KK w) 1 sx S (.Constant (.str "a star") k pos) (.d (ds starTxt)) := fun {S sx k pos} => st starTxt
    refine runs_cons (run_if (b := a / 256 % 8 == 3) (neq lv (nt 3)) (fun h => ?_) fun h3 => runs_nil ?_)
    · exact runs_cons (run_ret (ev_list (ds := [wishV none, wishV (some (wishFull a b c))]) (evl_cons star (evl_cons lv evl_nil)) (seg_len (by simp))) (by simp only [wishesOf, h, if_true]; rfl))
    refine runs_cons (run_if (b := a / 256 % 8 == 4) (neq lv (nt 4)) (fun h => ?_) fun h4 => runs_nil ?_)
    · exact runs_cons (run_ret (ev_list (ds := [wishV (some (wishFull a b c)), wishV none]) (evl_cons lv (evl_cons star evl_nil)) (seg_len (by simp))) (by simp only [wishesOf, h, h3, if_true, Bool.false_eq_true, if_false]; rfl))
    refine runs_cons (run_if (b := a / 256 % 8 == 5) (neq lv (nt 5)) (fun h => ?_) fun h5 => runs_nil ?_)
    · exact runs_cons (run_ret (ev_list (ds := [wishV none]) (evl_cons star evl_nil) (seg_len (by simp))) (by simp only [wishesOf, h, h3, h4, if_true, Bool.false_eq_true, if_false]; rfl))
    refine runs_cons (run_if (b := a / 256 % 8 == 6) (neq lv (nt 6)) (fun h => ?_) fun h6 => runs_nil ?_)
    · exact runs_cons (run_ret (ev_list (ds := []) evl_nil (seg_len (by simp))) (by simp only [wishesOf, h, h3, h4, h5, if_true, Bool.false_eq_true, if_false]; rfl))
    refine runs_cons (run_if (b := a / 256 % 8 == 7) (neq lv (nt 7)) (fun h => ?_) fun h7 => runs_nil ?_)
    · refine runs_cons (run_ret (ev_list (ds := [wishV (some ((wishFull a b c).take 4 ++ [some ((c + 1) % 8)]))]) (evl_cons ?_ evl_nil) (seg_len (by simp))) (by simp only [wishesOf, h, h3, h4, h5, h6, if_true, Bool.false_eq_true, if_false]; rfl))
      have hlen : (wishFull a b c).length = 5 := rfl
      have e : wishV (some ((wishFull a b c).take 4 ++ [some ((c + 1) % 8)])) = .list (slc ((wishFull a b c).map od) none (some ((4 : Nat) : Int)) ++ [dz ((c + 1) % 8)]) := by
        rw [slc_to, ← List.map_take]; rfl
      rw [e]
      exact ev_binop (ev_slice_list lv .none (.some ev_int) (seg_len (by simp [hlen]))) (ev_list (ds := [_]) (evl_cons (nmod (nadd lv (nt 1)) (nt 8)) evl_nil) (seg_len (by simp))) (op_add_list (by rw [show (4 : Int) = ((4 : Nat) : Int) from rfl, slc_to]; simp [sizeLine_eq]; exact (lin [_] (.v 0) (.n 16777215) (.s 1 (.v 0) (.n 4) .z) rfl (Nat.min_le_left _ _))))
    · exact runs_cons (run_ret (ev_list (ds := [wishV (some (wishFull a b c))]) (evl_cons lv evl_nil) (seg_len (by simp))) (by simp only [wishesOf, h3, h4, h5, h6, h7, Bool.false_eq_true, if_false]; rfl))
end
end Mine
end

-- the text N4
section
open PySem PySem.Calls PySem.W PyProof.Rows
set_option maxRecDepth 100000
namespace Mine
section
variable {prog : Program} {w : World}

theorem schr {K : Frag} {n : Nat} {sx : Sx} {S : State} {fn e : Expr} {pos : Pos} {i : Nat} (hf : Evals prog w K n sx S fn (.d (.raw (.builtin "chr")))) (h : Evals prog w K n sx S e (.d (dz i))) (hi : i < 1114112)
    (hst : ∀ env, starEach [e] env = (false, eval e env) :: starEach [] env := by intro _; rfl) (hplain : ∀ env, (backTo pos (starEach [] env)).any (·.1) = false := by intro _; rfl)
    (he : ∀ env, eval (.Call fn [e] [] pos) env = (do callWith pos (← eval fn env) [] (backTo pos (starEach [e] env)) (backToKw pos (keywordEach [] env))) := by intro _; rfl) : Evals prog w K n sx S (.Call fn [e] [] pos) (.d (ds [i])) :=
  ev_bcall (ds := [_]) hf (evl_cons h evl_nil hst) (bc_chr hi) hst hplain he

theorem ev_compf1 {K : Frag} {n : Nat} {sx : Sx} {S : State} {α : Type} {x : Str} {xp : Pos} {elt iter test : Expr} {scope : Scope} {pos : Pos} (fv : List (Str × D)) (as : List α) (g f : α → D) (p : α → Bool) (hsrc : Src prog w K n sx S (.Name x xp) iter (as.map g)) (so : ScopeOk sx S scope fv)
    (ht : ∀ a ∈ as, Tests prog w K n (sxComp sx scope) ⟨(x, V.d (g a)) :: (fv.map fun p => (p.1, V.d p.2)), []⟩ test (p a))
    (helt : ∀ a ∈ as, p a = true → Evals prog w K n (sxComp sx scope) ⟨(x, V.d (g a)) :: (fv.map fun p => (p.1, V.d p.2)), []⟩ elt (.d (f a))) (hlen : as.length ≤ sizeLine) (hk : (sxComp sx scope).scope.names.lookup x = some .local := by rfl) (hxf : fv.lookup x = none := by rfl)
    (hs : ∀ env x, foldedSetIterable iter env x = pure x := by intro _ _; rfl) : Evals prog w K n sx S (.ListComp elt [⟨.Name x xp, iter, [test], 0⟩] scope pos) (.d (.list ((as.filter p).map f))) :=
  ev_comp fv hsrc (loop_filter f p (fun d => [(x, d)]) [x] (fun a _ => binds_name hk) (fun _ _ => rfl) (fun z hz => by rw [List.mem_singleton.mp hz]; exact hxf) ht helt) (by rw [List.length_map]; exact Nat.le_trans (List.length_filter_le ..) hlen) so.kind so.cell so.names so.free so.fv hs

inductive IsSeq : D → List Nat → Prop
  | list (l : List Nat) : IsSeq (.list (nz l)) l
  | rng : IsSeq (.rng 0 ((8 : Nat) : Int) 1) (List.range 8)
theorem iters_seq {n : Nat} {target : Expr} {d : D} {l : List Nat} (h : IsSeq d l) (hl : l.length ≤ 100) : Iters prog w n target d (l.map dz) := by
  cases h with
  | list => exact iters_list (seg_len (by simp; omega))
  | rng =>
    rw [show (List.range 8).map dz = rngItems 0 1 8 from (rngItems_up _).symm]
    exact iters_range1 (by decide)
noncomputable def octs (high low : List Nat) (base : Nat) : List Nat := high.flatMap fun one => low.map fun other => base + 8 * one + other
noncomputable def bracketTxt (o : List Nat) : List Nat :=
  [91] ++ (if o.contains 93 then [93] else []) ++ (o.map (· + 128) ++ o.filter (fun x => !(x == 45 || x == 93))) ++ (if o.contains 45 then [45, 93] else [93])
noncomputable def bracketOf (high low : List Nat) (base : Nat) : List Nat := bracketTxt (octs high low base)
theorem any_contains (l : List Nat) (k : Nat) : (nz l).any (fun d => eqD d (dz k)) = l.contains k := by
  induction l with
  | nil => rfl
  | cons a l ih =>
    show (((a : Int) == (k : Int)) || (nz l).any fun d => eqD d (dz k)) = _
    rw [ih, int_eq_nat, List.contains_cons]
    by_cases h : a = k
    · subst h; simp
    · have h' : ¬ k = a := fun q => h q.symm
      rw [beq_eq_false_iff_ne.mpr h, beq_eq_false_iff_ne.mpr h']
theorem ev_ifs {K : Frag} {n : Nat} {sx : Sx} {S : State} {test body orelse : Expr} {pos : Pos} {b : Bool} {x y : List Nat} (ht : Tests prog w K n sx S test b) (h1 : Evals prog w K n sx S body (.d (ds x))) (h2 : Evals prog w K n sx S orelse (.d (ds y))) : Evals prog w K n sx S (.IfExp test body orelse pos) (.d (ds (if b then x else y))) :=
  ev_ifexp ht (fun e => by rw [e]; exact h1) (fun e => by rw [e]; exact h2)
theorem join_one (l : List Nat) : joinL [] (l.map fun x => [x]) = l := by
  rw [joinL_nil]; induction l with
  | nil => rfl
  | cons a l ih => simp [ih]
theorem len_ifs {b : Bool} {x y : List Nat} {k : Nat} (h1 : x.length ≤ k) (h2 : y.length ≤ k) : (if b then x else y).length ≤ k := by cases b <;> simpa
theorem octs_len (high low : List Nat) (base : Nat) : (octs high low base).length = high.length * low.length := by
  unfold octs
  rw [List.length_flatMap]
  induction high with
  | nil => simp
  | cons a l ih => simp only [List.map_cons, List.sum_cons, List.length_map, List.length_cons] at ih ⊢; rw [ih, Nat.succ_mul, Nat.add_comm]
set_option maxHeartbeats 8000000 in
theorem spec_bracket {dh dl : D} {high low : List Nat} {base : Nat} (h1 : IsSeq dh high) (h2 : IsSeq dl low) (l1 : high.length ≤ 8) (l2 : low.length ≤ 8) (b1 : ∀ x ∈ high, x ≤ 20) (b2 : ∀ x ∈ low, x ≤ 20) (hb : base ≤ 64) :
    Spec prog w (KK w) 1 133 [dh, dl, dz base] (ds (bracketOf high low base)) := by
  have hoct : ∀ o ∈ octs high low base, o ≤ 300 := fun o ho => by
    unfold octs at ho
    obtain ⟨a, ha, hx⟩ := List.mem_flatMap.mp ho
    obtain ⟨b, hb', rfl⟩ := List.mem_map.mp hx
    have := b1 a ha; have := b2 b hb'; lia
  have hol : (octs high low base).length ≤ 64 := by
    rw [octs_len]
    exact Nat.le_trans (Nat.mul_le_mul l1 l2) (by decide)
  refine spec_intro (names := ["high", "low", "base"]) (by rfl) (by kernel_rfl) (by rfl) ?_ (by decide) (by rfl) (by decide +kernel) (by rfl) (by rfl) (by rfl) (by rfl) (by rfl) (by decide +kernel) ?_
  · exact vs3 fun a b c => rfl
  · refine runs_cons (run_comp2 [("low", dl), ("base", dz base)] high dz low dz (fun one other => dz (base + 8 * one + other)) (src_of lv (iters_seq h1 (by omega))) (scopeOk ["low", "base"] (.cons (by rfl) (.inl (by rfl)) (by rfl) (.cons (by rfl) (.inl (by rfl)) (by rfl) .nil))) (fun a ha => cv) (iters_seq h2 (by omega)) (fun a ha b hb => nadd (nadd cv (nmul (nt 8) lv)) lv) ?_ swaps_of ?_)
    · rw [← octs_len high low base]; exact seg_len (by omega)
    have eo : (high.flatMap fun one => low.map fun other => dz (base + 8 * one + other)) = nz (octs high low base) := by
      unfold octs nz
      rw [List.map_flatMap]
      congr 1
      funext one
      rw [List.map_map]; rfl
    rw [eo]
    unfold bracketOf
    generalize octs high low base = o at hoct hol ⊢
    unfold bracketTxt
    let sg : List (List Nat) := (o.map fun x => [x + 128]) ++ (o.filter fun x => !(x == 45 || x == 93)).map fun x => [x]
    have esg : sg.flatten = o.map (· + 128) ++ o.filter (fun x => !(x == 45 || x == 93)) := by
      have h := fun l => join_one l
      simp only [sg, List.flatten_append]
      congr 1
      · clear hoct hol
        induction o with
        | nil => rfl
        | cons a l ih => simp_all
      · rw [← joinL_nil, h]
    have hfl : (o.filter fun x => !(x == 45 || x == 93)).length ≤ 64 := Nat.le_trans (List.length_filter_le ..) hol
    refine runs_cons (run_assign (v := .d (.list (sg.map ds))) ?_ (by rfl) ?_)
    · rw [show sg.map ds = (o.map fun x => ds [x + 128]) ++ (o.filter fun x => !(x == 45 || x == 93)).map fun x => ds [x] by
        simp only [sg, List.map_append, List.map_map]; rfl]
      refine ev_binop (ev_comp1 [] o dz (fun x => ds [x + 128]) (src_of lv (iters_list (seg_len (by simp; omega)))) (scopeOk [] .nil) (fun a ha => schr bv (nadd lv (nt 128)) (by have := hoct a ha; exact (lin [_] (.a (.a (.v 0) (.n 128)) (.n 1)) (.n 1114112) (.s 1 (.v 0) (.n 300) .z) rfl this))) (seg_len (by omega)))
        (ev_compf1 [] o dz (fun x => ds [x]) (fun x => !(x == 45 || x == 93)) (src_of lv (iters_list (seg_len (by simp; omega)))) (scopeOk [] .nil) (fun a ha => ?_) (fun a ha _ => schr bv lv (by have := hoct a ha; omega)) (seg_len (by omega)))
        (op_add_list (by simp only [List.length_map]; rw [sizeLine_eq]; exact (lin [_, _] (.a (.v 0) (.v 1)) (.n 16777216) (.s 1 (.v 0) (.n 64) (.s 1 (.v 1) (.n 64) .z)) rfl hol hfl)))
      have e : (!(a == 45 || a == 93)) = !([dz 45, dz 93].any fun d => eqD d (dz a)) := by
        show _ = !(((45 : Int) == (a : Int)) || (((93 : Int) == (a : Int)) || false))
        rw [show (45 : Int) = ((45 : Nat) : Int) from rfl, show (93 : Int) = ((93 : Nat) : Int) from rfl, int_eq_nat, int_eq_nat, Bool.or_false]
        by_cases h1 : a = 45
        · subst h1; rfl
        · by_cases h2 : a = 93
          · subst h2; rfl
          · have h1' : ¬ 45 = a := fun q => h1 q.symm
            have h2' : ¬ 93 = a := fun q => h2 q.symm
            rw [beq_eq_false_iff_ne.mpr h1, beq_eq_false_iff_ne.mpr h2, beq_eq_false_iff_ne.mpr h1', beq_eq_false_iff_ne.mpr h2']
      rw [e]
      exact tests_cmp lv (ev_tuple (ds := [dz 45, dz 93]) (evl_cons (nt 45) (evl_cons (nt 93) evl_nil)) (seg_len (by simp))) (op_notin_tuple fun d hd => by
        rcases List.mem_cons.mp hd with rfl | hd
        · rfl
        · rw [List.mem_singleton.mp hd]; rfl)
    have hin : ∀ {S : State} {sx : Sx} {e : Expr} {pos p : Pos} {q : Nat} {i : Int} (k : Nat), i = (k : Int) → Evals prog w (KK w) 0 sx S e (.d (.list (nz o))) → behindInMarks .In e = false → Tests prog w (KK w) 0 sx S (.Compare (.Constant (.int i) q p) [.In] [e] pos) (o.contains k) := fun {S sx e pos p q i} k hi h hm => by
      rw [← any_contains]
      refine tests_cmp (nt k hi) h (op_in_list fun d hd => ?_) hm
      obtain ⟨a, _, rfl⟩ := List.mem_map.mp hd
      rfl
    refine runs_cons (run_assign (v := .d (ds (if o.contains 93 then [93] else []))) (ev_ifs (hin 93 rfl lv rfl) (st [93]) (st [])) (by rfl) ?_)
    have e2 := join_one
    have hsum : (sg.map (·.length)).sum + sg.length ≤ 1048576 := by
      have h1 : (sg.map (·.length)).sum = sg.flatten.length := (List.length_flatten ..).symm
      have h2 : sg.length ≤ 128 := by simp only [sg, List.length_append, List.length_map]; exact (lin [_, _] (.a (.v 0) (.v 1)) (.n 128) (.s 1 (.v 0) (.n 64) (.s 1 (.v 1) (.n 64) .z)) rfl hol hfl)
      rw [h1, esg, List.length_append, List.length_map]; exact (lin [_, _, _] (.a (.a (.v 0) (.v 1)) (.v 2)) (.n 1048576) (.s 1 (.v 0) (.n 64) (.s 1 (.v 1) (.n 64) (.s 1 (.v 2) (.n 128) .z))) rfl hol hfl h2)
    have hj : joinL [] sg = o.map (· + 128) ++ o.filter (fun x => !(x == 45 || x == 93)) := (joinL_nil sg).trans esg
    rw [← hj]
    have hjl : (joinL [] sg).length ≤ 128 := by rw [hj, List.length_append, List.length_map]; exact (lin [_, _] (.a (.v 0) (.v 1)) (.n 128) (.s 1 (.v 0) (.n 64) (.s 1 (.v 1) (.n 64) .z)) rfl hol hfl)
    have hfr : (if o.contains 93 then [93] else [] : List Nat).length ≤ 1 := len_ifs (by simp) (by simp)
    refine runs_cons (run_ret (sadd (sadd (sadd (st [91]) lv ?_) (ev_join (st []) lv (by simp) hsum) ?_) (ev_ifs (hin 45 rfl lv rfl) (st [45, 93]) (st [93])) ?_) rfl)
    · simp only [List.length_cons, List.length_nil]; exact (lin [_] (.a (.a (.n 0) (.n 1)) (.v 0)) (.n 100000) (.s 1 (.v 0) (.n 1) .z) rfl hfr)
    · simp only [List.length_append, List.length_cons, List.length_nil]; exact (lin [_, _] (.a (.a (.a (.n 0) (.n 1)) (.v 0)) (.v 1)) (.n 100000) (.s 1 (.v 1) (.n 128) (.s 1 (.v 0) (.n 1) .z)) rfl hjl hfr)
    · have : (if o.contains 45 then [45, 93] else [93] : List Nat).length ≤ 2 := len_ifs (by simp) (by simp)
      simp only [List.length_append, List.length_cons, List.length_nil]; exact (lin [_, _, _] (.a (.a (.a (.a (.n 0) (.n 1)) (.v 0)) (.v 1)) (.v 2)) (.n 100000) (.s 1 (.v 1) (.n 128) (.s 1 (.v 0) (.n 1) (.s 1 (.v 2) (.n 2) .z))) rfl hjl hfr this)
end
end Mine
end

-- the text N5
section
open PySem PySem.Calls PySem.W PyProof.Rows
set_option maxRecDepth 100000
namespace Mine
section
variable {prog : Program} {w : World}

noncomputable def seq8 : Option Nat → List Nat
  | none => List.range 8
  | some x => [x]
noncomputable def seq8D : Option Nat → D
  | none => .rng 0 ((8 : Nat) : Int) 1
  | some x => .list (nz [x])
theorem seq8_is : ∀ o, IsSeq (seq8D o) (seq8 o)
  | none => .rng
  | some x => .list [x]
theorem seq8_len (o : Option Nat) : (seq8 o).length ≤ 8 := by cases o <;> simp [seq8]
noncomputable def firstTxt : Option Nat → List Nat
  | none => [63]
  | some k => bracketOf ([0, 2, 4, 6].map (k / 8 + ·)) [k % 8] 64
noncomputable def secondTxt (a o : Option Nat) : List Nat := if a.isNone && o.isNone then [63] else bracketOf (seq8 a) (seq8 o) 64
noncomputable def thirdTxt (g t : Option Nat) : List Nat := if g.isNone && t.isNone then [91, 0, 45, 63, 128, 45, 191, 93] else bracketOf (seq8 g) (seq8 t) 0
noncomputable def octTxt (k a o g t : Option Nat) : List Nat := firstTxt k ++ secondTxt a o ++ thirdTxt g t
theorem tnone {K : Frag} {n : Nat} {sx : Sx} {S : State} {e : Expr} {q : Nat} {p pos : Pos} {o : Option Nat} (h : Evals prog w K n sx S e (.d (od o))) : Tests prog w K n sx S (.Compare e [.Is] [.Constant .none q p] pos) o.isNone := by
  have := tests_cmp (pos := pos) h (ev_none (k := q) (pos := p)) (op_is_none (a := od o) (by cases o; exact .inl rfl; exact .inl rfl)) rfl
  cases o <;> exact this
theorem bracketTxt_len {o : List Nat} (h : o.length ≤ 64) : (bracketTxt o).length ≤ 140 := by
  unfold bracketTxt
  have h1 : (if o.contains 93 then [93] else [] : List Nat).length ≤ 1 := len_ifs (by simp) (by simp)
  have h2 : (if o.contains 45 then [45, 93] else [93] : List Nat).length ≤ 2 := len_ifs (by simp) (by simp)
  have h3 : (o.filter fun x => !(x == 45 || x == 93)).length ≤ o.length := List.length_filter_le ..
  simp only [List.length_append, List.length_map, List.length_cons, List.length_nil]; exact (lin [_, _, _, _] (.a (.a (.a (.a (.n 0) (.n 1)) (.v 0)) (.a (.v 1) (.v 2))) (.v 3)) (.n 140) (.s 2 (.v 1) (.n 64) (.s 1 (.v 0) (.n 1) (.s 1 (.v 3) (.n 2) (.s 1 (.v 2) (.v 1) .z)))) rfl h h1 h2 h3)
theorem bracket_len {high low : List Nat} {base : Nat} (l1 : high.length ≤ 8) (l2 : low.length ≤ 8) : (bracketOf high low base).length ≤ 140 :=
  bracketTxt_len (by rw [octs_len]; exact Nat.le_trans (Nat.mul_le_mul l1 l2) (by decide))
theorem firstTxt_len (k : Option Nat) : (firstTxt k).length ≤ 140 := by
  cases k with
  | none => simp [firstTxt]
  | some k => exact bracket_len (by simp) (by simp)
theorem secondTxt_len (a o : Option Nat) : (secondTxt a o).length ≤ 140 := by
  unfold secondTxt
  exact len_ifs (by simp) (bracket_len (seq8_len a) (seq8_len o))
theorem thirdTxt_len (a o : Option Nat) : (thirdTxt a o).length ≤ 140 := by
  unfold thirdTxt
  exact len_ifs (by simp) (bracket_len (seq8_len a) (seq8_len o))

theorem seq8_le {o : Option Nat} (h : ∀ x, o = some x → x ≤ 20) : ∀ x ∈ seq8 o, x ≤ 20 := by
  cases o with
  | none => intro x hx; have := List.mem_range.mp hx; exact (lin [_] (.v 0) (.n 20) (.s 1 (.a (.v 0) (.n 1)) (.n 8) .z) rfl this)
  | some y => intro x hx; rw [List.mem_singleton.mp hx]; exact h y rfl

theorem ev_seq8 {n : Nat} {sx : Sx} {S : State} {e e2 fn : Expr} {q q2 : Nat} {p p2 p3 pos cpos lpos : Pos} {o : Option Nat} (h : Evals prog w (KK w) n sx S e (.d (od o))) (h2 : Evals prog w (KK w) n sx S e2 (.d (od o))) (hf : Evals prog w (KK w) n sx S fn (.d (.raw (.type "range"))))
    (hst : ∀ env, starEach [.Constant (.int 8) q2 p3] env = (false, eval (.Constant (.int 8) q2 p3) env) :: starEach [] env := by intro _; rfl) (hplain : ∀ env, (backTo cpos (starEach [] env)).any (·.1) = false := by intro _; rfl)
    (he : ∀ env, eval (.Call fn [.Constant (.int 8) q2 p3] [] cpos) env = (do callWith cpos (← eval fn env) [] (backTo cpos (starEach [.Constant (.int 8) q2 p3] env)) (backToKw cpos (keywordEach [] env))) := by intro _; rfl)
    (hst2 : ∀ env, starEach [e2] env = (false, eval e2 env) :: starEach [] env := by intro _; rfl) :
    Evals prog w (KK w) n sx S (.IfExp (.Compare e [.Is] [.Constant .none q p] p2) (.Call fn [.Constant (.int 8) q2 p3] [] cpos) (.List [e2] lpos) pos) (.d (seq8D o)) := by
  refine ev_ifexp (tnone h) (fun b => ?_) fun b => ?_
  · cases o with
    | none => exact ev_tcall (ds := [dz 8]) hf (evl_cons (nt 8) evl_nil hst) bc_range1 hst hplain he
    | some x => cases b
  · cases o with
    | none => cases b
    | some x => exact ev_list (ds := [dz x]) (evl_cons h2 evl_nil hst2) (seg_len (by simp))
set_option maxHeartbeats 8000000 in
theorem spec_octets {k a o g t : Option Nat} (hk : ∀ x, k = some x → x < 16) (ha : ∀ x, a = some x → x < 8) (ho : ∀ x, o = some x → x < 8) (hg : ∀ x, g = some x → x < 8) (ht : ∀ x, t = some x → x < 8) :
    Spec prog w (KK w) 2 138 [wishD [k, a, o, g, t]] (ds (octTxt k a o g t)) := by
  refine spec_intro (names := ["wish"]) (by rfl) (by kernel_rfl) (by rfl) ?_ (by decide) (by rfl) (by decide +kernel) (by rfl) (by rfl) (by rfl) (by rfl) (by rfl) (by decide +kernel) ?_
  · exact vs1 fun a => rfl
  · refine runs_cons (run_if (b := false) (tests_cmp lv (st starTxt) op_eq_list_str) (fun h => by cases h) fun _ => runs_nil ?_)
    refine runs_cons (run_unpack (upd := [("kind", od k), ("above", od a), ("owner", od o), ("group", od g), ("others", od t)]) lv (binds_tuple unpacks_list (bindsL_cons (binds_cell (by rfl) (by rfl)) (bindsL_cons (binds_name (by rfl)) (bindsL_cons (binds_name (by rfl)) (bindsL_cons (binds_name (by rfl)) (bindsL_cons (binds_name (by rfl)) bindsL_nil)))))) ?_)
    refine runs_cons (run_assign (v := .d (ds (firstTxt k))) (ev_ifexp (tnone cv) (fun b => ?_) fun b => ?_) (by rfl) ?_)
    · cases k with
      | none => exact st [63]
      | some k => cases b
    · cases k with
      | none => cases b
      | some k =>
        have hk' := hk k rfl
        refine ev_call (ds := [.list (nz ([0, 2, 4, 6].map (k / 8 + ·))), .list (nz [k % 8]), dz 64]) gv (evl_cons ?_ (evl_cons (ev_list (ds := [_]) (evl_cons (nmod cv (nt 8)) evl_nil) (seg_len (by simp))) (evl_cons (nt 64) evl_nil))) (by rfl) (spec_bracket (.list _) (.list _) (by simp) (by simp) (fun x hx => ?_) (fun x hx => ?_) (by exact (Nat.le_of_ble_eq_true rfl))) (by exact (Nat.le_of_ble_eq_true rfl)) (KKtab w) ⟨_, _, rfl, fun _ => rfl⟩
        · rw [show nz ([0, 2, 4, 6].map (k / 8 + ·)) = [0, 2, 4, 6].map fun x => dz (k / 8 + x) from rfl]
          exact ev_comp1 [("kind", dz k)] [0, 2, 4, 6] dz (fun x => dz (k / 8 + x)) (src_of (ev_tuple (ds := [0, 2, 4, 6].map dz) (evl_cons (nt 0) (evl_cons (nt 2) (evl_cons (nt 4) (evl_cons (nt 6) evl_nil)))) (seg_len (by simp))) iters_tuple) (scopeOk ["kind"] (.cons (by rfl) (.inl (by rfl)) (by rfl) .nil)) (fun x hx => nadd (ndiv cv (nt 8)) lv) (seg_len (by simp))
        · simp at hx; lia
        · simp at hx; exact (lin [_, _] (.v 0) (.n 20) (.e 1 0 (.v 0) (.v 1) (.s 1 (.a (.v 1) (.n 1)) (.n 8) .z)) rfl hx (Nat.mod_lt _ (Nat.succ_pos 7)))
    have l1 := firstTxt_len k
    have l2 := secondTxt_len a o
    have l3 := thirdTxt_len g t
    refine runs_join ⟨[("text", .d (ds (firstTxt k ++ secondTxt a o))), ("group", .d (od g)), ("others", .d (od t))], []⟩ (run_if (b := a.isNone && o.isNone) (tests_and (tnone lv) fun _ => tnone lv) (fun h => ?_) fun h => ?_) ?_
    · refine runs_cons (run_assign (v := .d (ds (firstTxt k ++ secondTxt a o))) ?_ (by rfl) (runs_nil (has rfl ⟨rfl, rfl, rfl, trivial⟩)))
      rw [show secondTxt a o = [63] by unfold secondTxt; rw [h]; rfl]
      exact sadd lv (st [63]) (by simp; omega)
    · refine runs_cons (run_assign (v := .d (seq8D a)) (ev_seq8 lv lv bv) (by rfl) ?_)
      refine runs_cons (run_assign (v := .d (ds (firstTxt k ++ secondTxt a o))) ?_ (by rfl) (runs_nil (has rfl ⟨rfl, rfl, rfl, trivial⟩)))
      have e : secondTxt a o = bracketOf (seq8 a) (seq8 o) 64 := by unfold secondTxt; rw [h]; rfl
      have hl : (bracketOf (seq8 a) (seq8 o) 64).length ≤ 140 := bracket_len (seq8_len a) (seq8_len o)
      rw [e]
      exact sadd lv (ev_call (ds := [seq8D a, seq8D o, dz 64]) gv (evl_cons lv (evl_cons (ev_seq8 lv lv bv) (evl_cons (nt 64) evl_nil))) (by rfl) (spec_bracket (seq8_is a) (seq8_is o) (seq8_len a) (seq8_len o) (seq8_le fun x hx => by have := ha x hx; exact (lin [_] (.v 0) (.n 20) (.s 1 (.a (.v 0) (.n 1)) (.n 8) .z) rfl this)) (seq8_le fun x hx => by have := ho x hx; exact (lin [_] (.v 0) (.n 20) (.s 1 (.a (.v 0) (.n 1)) (.n 8) .z) rfl this)) (by exact (Nat.le_of_ble_eq_true rfl))) (by exact (Nat.le_of_ble_eq_true rfl)) (KKtab w) ⟨_, _, rfl, fun _ => rfl⟩) (by exact (lin [_, _] (.a (.v 0) (.v 1)) (.n 100000) (.s 1 (.v 0) (.n 140) (.s 1 (.v 1) (.n 140) .z)) rfl l1 hl))
    refine runs_cons (run_if (b := g.isNone && t.isNone) (tests_and (tnone lv) fun _ => tnone lv) (fun h => ?_) fun h => runs_nil ?_)
    · have e : octTxt k a o g t = firstTxt k ++ secondTxt a o ++ [91] ++ [0] ++ [45] ++ [63] ++ [128] ++ [45] ++ [191] ++ [93] := by
        unfold octTxt thirdTxt; rw [h]; simp
      rw [e]
      have l4 : (firstTxt k ++ secondTxt a o).length ≤ 280 := by rw [List.length_append]; exact (lin [_, _] (.a (.v 0) (.v 1)) (.n 280) (.s 1 (.v 0) (.n 140) (.s 1 (.v 1) (.n 140) .z)) rfl l1 l2)
      refine runs_cons (run_ret (sadd (sadd (sadd (sadd (sadd (sadd (sadd (sadd lv (st [91]) ?_) (schr bv (nt 0) (by exact (Nat.le_of_ble_eq_true rfl))) ?_) (st [45]) ?_) (schr bv (nt 63) (by exact (Nat.le_of_ble_eq_true rfl))) ?_) (schr bv (nt 128) (by exact (Nat.le_of_ble_eq_true rfl))) ?_) (st [45]) ?_) (schr bv (nt 191) (by exact (Nat.le_of_ble_eq_true rfl))) ?_) (st [93]) ?_) rfl)
      all_goals (simp only [List.length_append, List.length_cons, List.length_nil] at l4 ⊢; lia)
    · have e : octTxt k a o g t = (firstTxt k ++ secondTxt a o) ++ bracketOf (seq8 g) (seq8 t) 0 := by
        unfold octTxt thirdTxt; rw [h]; rfl
      have l4 : (firstTxt k ++ secondTxt a o).length ≤ 280 := by rw [List.length_append]; exact (lin [_, _] (.a (.v 0) (.v 1)) (.n 280) (.s 1 (.v 0) (.n 140) (.s 1 (.v 1) (.n 140) .z)) rfl l1 l2)
      have hl : (bracketOf (seq8 g) (seq8 t) 0).length ≤ 140 := bracket_len (seq8_len g) (seq8_len t)
      rw [e]
      refine runs_cons (run_assign (v := .d (seq8D g)) (ev_seq8 lv lv bv) (by rfl) ?_)
      exact runs_cons (run_ret (sadd lv (ev_call (ds := [seq8D g, seq8D t, dz 0]) gv (evl_cons lv (evl_cons (ev_seq8 lv lv bv) (evl_cons (nt 0) evl_nil))) (by rfl) (spec_bracket (seq8_is g) (seq8_is t) (seq8_len g) (seq8_len t) (seq8_le fun x hx => by have := hg x hx; exact (lin [_] (.v 0) (.n 20) (.s 1 (.a (.v 0) (.n 1)) (.n 8) .z) rfl this)) (seq8_le fun x hx => by have := ht x hx; exact (lin [_] (.v 0) (.n 20) (.s 1 (.a (.v 0) (.n 1)) (.n 8) .z) rfl this)) (by exact (Nat.le_of_ble_eq_true rfl))) (by exact (Nat.le_of_ble_eq_true rfl)) (KKtab w) ⟨_, _, rfl, fun _ => rfl⟩) (by exact (lin [_, _] (.a (.v 0) (.v 1)) (.n 100000) (.s 1 (.v 0) (.n 280) (.s 1 (.v 1) (.n 140) .z)) rfl l4 hl))) rfl)
set_option maxHeartbeats 4000000 in
theorem spec_octets_star : Spec prog w (KK w) 2 138 [ds starTxt] (ds [42]) := by
  refine spec_intro (names := ["wish"]) (by rfl) (by kernel_rfl) (by rfl) ?_ (by decide) (by rfl) (by decide +kernel) (by rfl) (by rfl) (by rfl) (by rfl) (by rfl) (by decide +kernel) ?_
  · exact vs1 fun a => rfl
  · exact runs_cons (run_if (b := starTxt == starTxt) (seq lv (st starTxt)) (fun h => runs_cons (run_ret (st [42]) rfl)) fun h => absurd h (by decide))
end
end Mine
end

-- the text N6
section
open PySem PySem.Calls PySem.W PyProof.Rows
set_option maxRecDepth 100000
namespace Mine
section
variable {prog : Program} {w : World}

noncomputable def kindTxt : Option Nat → List Nat
  | none => [63]
  | some k => [kindSigns.getD k 0]
noncomputable def figTxt : Option Nat → List Nat
  | none => [63, 63]
  | some f => (if f / 4 == 1 then [114] else [45]) ++ (if f / 2 % 2 == 1 then [119] else [45])
noncomputable def canOf : Option Nat → List Nat
  | none => [0, 1]
  | some f => [f % 2]
noncomputable def moreOf (a : Option Nat) (worth : Nat) : List Nat := match a with
  | none => [0, 2]
  | some a => [a / worth % 2 * 2]
noncomputable def sgn (drawn more can : List Nat) : List Nat := more.flatMap fun one => can.map fun other => drawn.getD (one + other) 0
noncomputable def sgTxt (s : List Nat) : List Nat := if s.length == 4 then [63] else if s.length == 1 then s else [91] ++ s ++ [93]
noncomputable def partTxt (a : Option Nat) (p : Option Nat × Nat × List Nat) : List Nat := figTxt p.1 ++ sgTxt (sgn p.2.2 (moreOf a p.2.1) (canOf p.1))
noncomputable def xS : List Nat := [45, 120, 83, 115]
noncomputable def xT : List Nat := [45, 120, 84, 116]
noncomputable def triples (o g t : Option Nat) : List (Option Nat × Nat × List Nat) := [(o, 4, xS), (g, 2, xS), (t, 1, xT)]
noncomputable def signTxt (k a o g t : Option Nat) : List Nat := kindTxt k ++ (triples o g t).flatMap (partTxt a) ++ [44]
theorem canOf_len (f : Option Nat) : (canOf f).length ≤ 2 := by cases f <;> simp [canOf]
theorem moreOf_len (a : Option Nat) (w : Nat) : (moreOf a w).length ≤ 2 := by cases a <;> simp [moreOf]
theorem sgn_len (d m c : List Nat) : (sgn d m c).length = m.length * c.length := by
  unfold sgn
  rw [List.length_flatMap]
  induction m with
  | nil => simp
  | cons a l ih => simp only [List.map_cons, List.sum_cons, List.length_map, List.length_cons] at ih ⊢; rw [ih, Nat.succ_mul, Nat.add_comm]
theorem sgn_len4 (d : List Nat) (a f : Option Nat) (w : Nat) : (sgn d (moreOf a w) (canOf f)).length ≤ 4 := by
  rw [sgn_len]; exact Nat.le_trans (Nat.mul_le_mul (moreOf_len a w) (canOf_len f)) (by decide)
theorem partTxt_len (a : Option Nat) (p : Option Nat × Nat × List Nat) : (partTxt a p).length ≤ 10 := by
  unfold partTxt
  have h1 : (figTxt p.1).length ≤ 2 := by
    cases p.1 with
    | none => simp [figTxt]
    | some f =>
      have h1 : (if f / 4 == 1 then [114] else [45] : List Nat).length ≤ 1 := len_ifs (by simp) (by simp)
      have h2 : (if f / 2 % 2 == 1 then [119] else [45] : List Nat).length ≤ 1 := len_ifs (by simp) (by simp)
      simp only [figTxt, List.length_append]; exact (lin [_, _] (.a (.v 0) (.v 1)) (.n 2) (.s 1 (.v 0) (.n 1) (.s 1 (.v 1) (.n 1) .z)) rfl h1 h2)
  have h2 := sgn_len4 p.2.2 a p.1 p.2.1
  have h3 : (sgTxt (sgn p.2.2 (moreOf a p.2.1) (canOf p.1))).length ≤ 6 := by
    unfold sgTxt
    refine len_ifs (by simp) (len_ifs (by omega) ?_)
    simp only [List.length_append, List.length_cons, List.length_nil]; exact (lin [_] (.a (.a (.a (.n 0) (.n 1)) (.v 0)) (.a (.n 0) (.n 1))) (.n 6) (.s 1 (.v 0) (.n 4) .z) rfl h2)
  rw [List.length_append]; exact (lin [_, _] (.a (.v 0) (.v 1)) (.n 10) (.s 1 (.v 0) (.n 2) (.s 1 (.v 1) (.n 6) .z)) rfl h1 h3)
noncomputable abbrev triD (p : Option Nat × Nat × List Nat) : D := .tuple [od p.1, dz p.2.1, ds p.2.2]
noncomputable def preTxt (k a : Option Nat) (l : List (Option Nat × Nat × List Nat)) : List Nat := kindTxt k ++ l.flatMap (partTxt a)
theorem preTxt_len (k a : Option Nat) (l : List (Option Nat × Nat × List Nat)) : (preTxt k a l).length ≤ 1 + 10 * l.length := by
  unfold preTxt
  have h1 : (kindTxt k).length = 1 := by cases k <;> rfl
  have h2 : (l.flatMap (partTxt a)).length ≤ 10 * l.length := by
    induction l with
    | nil => simp
    | cons p l ih => have := partTxt_len a p; simp only [List.flatMap_cons, List.length_append, List.length_cons]; exact (lin [_, _, _] (.a (.v 0) (.v 1)) (.m 10 (.a (.v 2) (.n 1))) (.s 1 (.v 1) (.m 10 (.v 2)) (.s 1 (.v 0) (.n 10) .z)) rfl ih this)
  rw [List.length_append]; exact (lin [_, _, _] (.a (.v 0) (.v 1)) (.a (.n 1) (.m 10 (.v 2))) (.e 1 0 (.v 0) (.n 1) (.s 1 (.v 1) (.m 10 (.v 2)) .z)) rfl h1 h2)

set_option maxHeartbeats 8000000 in
theorem spec_signs {k a o g t : Option Nat} (hk : ∀ x, k = some x → x < 16) : Spec prog w (KK w) 2 143 [wishD [k, a, o, g, t]] (ds (signTxt k a o g t)) := by
  refine spec_intro (names := ["wish"]) (by rfl) (by kernel_rfl) (by rfl) ?_ (by decide) (by rfl) (by decide +kernel) (by rfl) (by rfl) (by rfl) (by rfl) (by rfl) (by decide +kernel) ?_
  · exact vs1 fun a => rfl
  · refine runs_cons (run_if (b := false) (tests_cmp lv (st starTxt) op_eq_list_str) (fun h => by cases h) fun _ => runs_nil ?_)
    refine runs_cons (run_unpack (upd := [("kind", od k), ("above", od a), ("owner", od o), ("group", od g), ("others", od t)]) lv (binds_tuple unpacks_list (bindsL_cons (binds_name (by rfl)) (bindsL_cons (binds_name (by rfl)) (bindsL_cons (binds_name (by rfl)) (bindsL_cons (binds_name (by rfl)) (bindsL_cons (binds_name (by rfl)) bindsL_nil)))))) ?_)
    refine runs_cons (run_assign (v := .d (ds (kindTxt k))) (ev_ifexp (tnone lv) (fun b => ?_) fun b => ?_) (by rfl) ?_)
    · cases k with
      | none => exact st [63]
      | some k => cases b
    · cases k with
      | none => cases b
      | some k => exact ev_call (ds := [_]) gv (evl_cons lv evl_nil) (by rfl) (spec_kind (hk k rfl)) (by exact (Nat.le_of_ble_eq_true rfl)) (KKtab w) ⟨_, _, rfl, fun _ => rfl⟩
    refine runs_cons (run_forH (triples o g t) triD (fun d => match d with | .tuple [x, y, z] => [("figure", x), ("worth", y), ("drawn", z)] | _ => []) (fun i => ⟨[("text", .d (ds (preTxt k a ((triples o g t).take i)))), ("above", .d (od a))], []⟩) (fun _ => True)
      (src_of (ev_tuple (ds := (triples o g t).map triD) (evl_cons (ev_tuple (ds := [od o, dz 4, ds xS]) (evl_cons lv (evl_cons (nt 4) (evl_cons (st xS) evl_nil))) (seg_len (by simp))) (evl_cons (ev_tuple (ds := [od g, dz 2, ds xS]) (evl_cons lv (evl_cons (nt 2) (evl_cons (st xS) evl_nil))) (seg_len (by simp))) (evl_cons (ev_tuple (ds := [od t, dz 1, ds xT]) (evl_cons lv (evl_cons (nt 1) (evl_cons (st xT) evl_nil))) (seg_len (by simp))) evl_nil))) (seg_len (by simp [triples]))) iters_tuple)
      (fun p hp => binds_tuple unpacks_tuple (bindsL_cons (binds_name (by rfl)) (bindsL_cons (binds_name (by rfl)) (bindsL_cons (binds_cell (by rfl) (by rfl)) bindsL_nil)))) (has rfl ⟨?_, rfl, trivial⟩) trivial (fun i p hi _ => ?_) fun _ => ?_)
    · show some (V.d (ds (kindTxt k))) = some (V.d (ds (preTxt k a [])))
      rw [show preTxt k a [] = kindTxt k by simp [preTxt]]
    · obtain ⟨f, wo, dr⟩ := p
      have hm : (f, wo, dr) ∈ triples o g t := List.mem_of_getElem? hi
      have hw : wo ≠ 0 ∧ wo < 1000 ∧ dr.length = 4 := by
        simp only [triples, List.mem_cons, Prod.mk.injEq, List.not_mem_nil, or_false] at hm
        rcases hm with ⟨_, rfl, rfl⟩ | ⟨_, rfl, rfl⟩ | ⟨_, rfl, rfl⟩ <;> exact ⟨by decide, by decide, rfl⟩
      obtain ⟨hw0, hw1, hdr⟩ := hw
      have hpre : ((triples o g t).take i).length ≤ 3 := by rw [List.length_take]; exact Nat.le_trans (Nat.min_le_right _ _) (Nat.le_refl 3)
      have hpl := preTxt_len k a ((triples o g t).take i)
      have hnext : preTxt k a ((triples o g t).take (i + 1)) = preTxt k a ((triples o g t).take i) ++ figTxt f ++ sgTxt (sgn dr (moreOf a wo) (canOf f)) := by
        unfold preTxt
        rw [List.take_add_one, hi]
        simp [partTxt, List.flatMap_append]
      rw [hnext]
      generalize preTxt k a ((triples o g t).take i) = pre at hpl hnext ⊢
      have hfig : (figTxt f).length ≤ 2 := by
        cases f with
        | none => simp [figTxt]
        | some f =>
          have h1 : (if f / 4 == 1 then [114] else [45] : List Nat).length ≤ 1 := len_ifs (by simp) (by simp)
          have h2 : (if f / 2 % 2 == 1 then [119] else [45] : List Nat).length ≤ 1 := len_ifs (by simp) (by simp)
          simp only [figTxt, List.length_append]; exact (lin [_, _] (.a (.v 0) (.v 1)) (.n 2) (.s 1 (.v 0) (.n 1) (.s 1 (.v 1) (.n 1) .z)) rfl h1 h2)
      have hpf : (pre ++ figTxt f).length ≤ 33 := by rw [List.length_append]; exact (lin [_, _, _] (.a (.v 0) (.v 1)) (.n 33) (.s 10 (.v 2) (.n 3) (.s 1 (.v 0) (.a (.n 1) (.m 10 (.v 2))) (.s 1 (.v 1) (.n 2) .z))) rfl hpre hpl hfig)
      refine runs_join ⟨[("text", .d (ds (pre ++ figTxt f))), ("above", .d (od a)), ("figure", .d (od f)), ("worth", .d (dz wo)), ("drawn", .d (ds dr))], []⟩ (run_if (b := f.isNone) (tnone lv) (fun h => ?_) fun h => ?_) ?_
      · cases f with
        | some f => cases h
        | none => exact runs_cons (run_assign (v := .d (ds (pre ++ figTxt none))) (sadd lv (st [63, 63]) (by have : (figTxt none).length = 2 := rfl; exact (lin [_, _, _] (.a (.v 0) (.v 1)) (.n 100000) (.s 10 (.v 2) (.n 3) (.s 1 (.v 0) (.a (.n 1) (.m 10 (.v 2))) (.s 1 (.v 1) (.n 2) .z))) rfl hpre hpl hfig))) (by rfl) (runs_nil (has rfl ⟨rfl, rfl, rfl, rfl, rfl, trivial⟩)))
      · cases f with
        | none => cases h
        | some f =>
          have h1 : (if f / 4 == 1 then [114] else [45] : List Nat).length ≤ 1 := len_ifs (by simp) (by simp)
          have h2 : (if f / 2 % 2 == 1 then [119] else [45] : List Nat).length ≤ 1 := len_ifs (by simp) (by simp)
          refine runs_cons (run_assign (v := .d (ds (pre ++ figTxt (some f)))) ?_ (by rfl) (runs_nil (has rfl ⟨rfl, rfl, rfl, rfl, rfl, trivial⟩)))
          rw [show pre ++ figTxt (some f) = pre ++ (if f / 4 == 1 then [114] else [45]) ++ (if f / 2 % 2 == 1 then [119] else [45]) by simp [figTxt]]
          exact sadd (sadd lv (ev_ifs (neq (ndiv lv (nt 4)) (nt 1)) (st [114]) (st [45])) (by exact (lin [_, _, _] (.a (.v 0) (.v 1)) (.n 100000) (.s 10 (.v 2) (.n 3) (.s 1 (.v 0) (.a (.n 1) (.m 10 (.v 2))) (.s 1 (.v 1) (.n 1) .z))) rfl hpre hpl h1))) (ev_ifs (neq (nmod (ndiv lv (nt 2)) (nt 2)) (nt 1)) (st [119]) (st [45])) (by rw [List.length_append]; exact (lin [_, _, _, _] (.a (.a (.v 0) (.v 1)) (.v 2)) (.n 100000) (.s 10 (.v 3) (.n 3) (.s 1 (.v 0) (.a (.n 1) (.m 10 (.v 3))) (.s 1 (.v 1) (.n 1) (.s 1 (.v 2) (.n 1) .z)))) rfl hpre hpl h1 h2))
      have hcan : ∀ x ∈ canOf f, x ≤ 1 := by
        cases f with
        | none => intro x hx; simp [canOf] at hx; lia
        | some f => intro x hx; simp [canOf] at hx; exact (lin [_, _] (.v 0) (.n 1) (.e 1 0 (.v 0) (.v 1) (.s 1 (.a (.v 1) (.n 1)) (.n 2) .z)) rfl hx (Nat.mod_lt _ (Nat.succ_pos 1)))
      have hmore : ∀ x ∈ moreOf a wo, x ≤ 2 := by
        cases a with
        | none => intro x hx; simp [moreOf] at hx; lia
        | some a => intro x hx; simp [moreOf] at hx; exact (lin [_, _] (.v 0) (.n 2) (.e 1 0 (.v 0) (.r (.v 1) 2) (.s 2 (.a (.v 1) (.n 1)) (.n 2) .z)) rfl hx (Nat.mod_lt _ (Nat.succ_pos 1)))
      refine runs_cons (run_assignC (v := .d (.list (nz (canOf f)))) (ev_ifexp (tnone lv) (fun h => ?_) fun h => ?_) (by rfl) (by rfl) ?_)
      · cases f with
        | some f => cases h
        | none => exact ev_list (ds := [dz 0, dz 1]) (evl_cons (nt 0) (evl_cons (nt 1) evl_nil)) (seg_len (by simp))
      · cases f with
        | none => cases h
        | some f => exact ev_list (ds := [dz (f % 2)]) (evl_cons (nmod lv (nt 2)) evl_nil) (seg_len (by simp))
      refine runs_cons (run_assign (v := .d (.list (nz (moreOf a wo)))) (ev_ifexp (tnone lv) (fun h => ?_) fun h => ?_) (by rfl) ?_)
      · cases a with
        | some a => cases h
        | none => exact ev_list (ds := [dz 0, dz 2]) (evl_cons (nt 0) (evl_cons (nt 2) evl_nil)) (seg_len (by simp))
      · cases a with
        | none => cases h
        | some a => exact ev_list (ds := [dz (a / wo % 2 * 2)]) (evl_cons (nmul' (nmod (ndiv lv lv hw0 (by omega)) (nt 2)) (nt 2) (IntMulOk.of_right (by decide))) evl_nil) (seg_len (by simp))
      have hs4 := sgn_len4 dr a f wo
      refine runs_cons (run_assign (v := .d (ds (sgn dr (moreOf a wo) (canOf f)))) ?_ (by rfl) ?_)
      · have e1 : ((moreOf a wo).flatMap fun one => (canOf f).map fun other => ds [dr.getD (one + other) 0]) = ((sgn dr (moreOf a wo) (canOf f)).map fun x => [x]).map ds := by
          unfold sgn
          rw [List.map_flatMap, List.map_flatMap]
          congr 1
          funext one
          rw [List.map_map, List.map_map]; rfl
        have e2 := join_one (sgn dr (moreOf a wo) (canOf f))
        rw [← e2]
        refine ev_join (st []) ?_ (by simp) ?_
        · rw [← e1]
          refine ev_comp2 [("drawn", ds dr), ("can", .list (nz (canOf f)))] (moreOf a wo) dz (canOf f) dz (fun one other => ds [dr.getD (one + other) 0]) (src_of lv (iters_list (seg_len (by have := moreOf_len a wo; rw [List.length_map]; omega)))) (scopeOk ["drawn", "can"] (.cons (by rfl) (.inl (by rfl)) (by rfl) (.cons (by rfl) (.inl (by rfl)) (by rfl) .nil))) (fun x hx => cv) (iters_list (seg_len (by have := canOf_len f; rw [List.length_map]; omega))) (fun x hx y hy => sidx cv (nadd lv lv) (by have := hmore x hx; have := hcan y hy; lia) (by exact (lin [_] (.v 0) (.n 100000) (.e 1 0 (.v 0) (.n 4) .z) rfl hdr))) ?_
          rw [← sgn_len dr]; exact seg_len (by omega)
        · rw [List.map_map, List.length_map]
          have : ((fun x => List.length x) ∘ fun (x : Nat) => [x]) = fun _ => 1 := rfl
          rw [this, List.map_const', List.sum_replicate_nat]; exact (lin [_] (.a (.r (.v 0) 1) (.v 0)) (.n 1048576) (.s 2 (.v 0) (.n 4) .z) rfl hs4)
      generalize sgn dr (moreOf a wo) (canOf f) = sg at hs4 hnext ⊢
      have hsg : (sgTxt sg).length ≤ 6 := by
        unfold sgTxt
        refine len_ifs (by simp) (len_ifs (by omega) ?_)
        simp only [List.length_append, List.length_cons, List.length_nil]; exact (lin [_] (.a (.a (.a (.n 0) (.n 1)) (.v 0)) (.a (.n 0) (.n 1))) (.n 6) (.s 1 (.v 0) (.n 4) .z) rfl hs4)
      refine runs_cons (run_assign (v := .d (ds (pre ++ figTxt f ++ sgTxt sg))) (sadd lv ?_ (by exact (lin [_, _] (.a (.v 0) (.v 1)) (.n 100000) (.s 1 (.v 0) (.n 33) (.s 1 (.v 1) (.n 6) .z)) rfl hpf hsg))) (by rfl) (runs_nil ⟨trivial, has rfl ⟨rfl, rfl, trivial⟩⟩))
      exact ev_ifs (neq (slen bv lv (by omega)) (nt 4)) (st [63]) (ev_ifs (neq (slen bv lv (by omega)) (nt 1)) lv (sadd (sadd (st [91]) lv (by simp only [List.length_cons, List.length_nil]; exact (lin [_] (.a (.a (.n 0) (.n 1)) (.v 0)) (.n 100000) (.s 1 (.v 0) (.n 4) .z) rfl hs4))) (st [93]) (by simp only [List.length_append, List.length_cons, List.length_nil]; exact (lin [_] (.a (.a (.a (.n 0) (.n 1)) (.v 0)) (.a (.n 0) (.n 1))) (.n 100000) (.s 1 (.v 0) (.n 4) .z) rfl hs4))))
    · refine runs_nil ?_
      have hpl := preTxt_len k a (triples o g t)
      have e : (triples o g t).take (triples o g t).length = triples o g t := List.take_length
      rw [e]
      refine runs_cons (run_ret (d := ds (preTxt k a (triples o g t) ++ [44])) (sadd lv (st [44]) ?_) rfl)
      have : (triples o g t).length = 3 := rfl
      simp only [List.length_cons, List.length_nil]; exact (lin [_, _] (.a (.v 0) (.a (.n 0) (.n 1))) (.n 100000) (.s 1 (.v 0) (.a (.n 1) (.m 10 (.v 1))) (.e 10 0 (.v 1) (.n 3) .z)) rfl hpl this)
set_option maxHeartbeats 4000000 in
theorem spec_signs_star : Spec prog w (KK w) 2 143 [ds starTxt] (ds [42]) := by
  refine spec_intro (names := ["wish"]) (by rfl) (by kernel_rfl) (by rfl) ?_ (by decide) (by rfl) (by decide +kernel) (by rfl) (by rfl) (by rfl) (by rfl) (by rfl) (by decide +kernel) ?_
  · exact vs1 fun a => rfl
  · exact runs_cons (run_if (b := starTxt == starTxt) (seq lv (st starTxt)) (fun h => runs_cons (run_ret (st [42]) rfl)) fun h => absurd h (by decide))
end
end Mine
end

-- the text N7
section
open PySem PySem.Calls PySem.W PyProof.Rows
set_option maxRecDepth 100000
namespace Mine
section
variable {prog : Program} {w : World}

noncomputable abbrev bz (l : List Bool) : List D := l.map D.bool
noncomputable def ansStep (files : List Nat) (ans : List Bool) : Wish → List Bool
  | none => (List.range ans.length).map fun p => (ans.drop p).contains true
  | some l => (List.range files.length).map (fun p => ans.getD (p + 1) false && fits l (files.getD p 0)) ++ [false]
noncomputable def ansFrom (files : List Nat) (ws : List Wish) : List Bool := ws.foldl (ansStep files) (files.map (fun _ => false) ++ [true])
noncomputable def answersOf (wishes : List Wish) (files : List Nat) : List Bool := ansFrom files wishes.reverse
theorem ansStep_len (files : List Nat) (ans : List Bool) (h : ans.length = files.length + 1) (wi : Wish) : (ansStep files ans wi).length = files.length + 1 := by
  cases wi with
  | none => simp [ansStep, h]
  | some l => simp [ansStep]
theorem ansFrom_len (files : List Nat) : ∀ (ws : List Wish), (ansFrom files ws).length = files.length + 1 := by
  have h : ∀ (ws : List Wish) (a : List Bool), a.length = files.length + 1 → (ws.foldl (ansStep files) a).length = files.length + 1 := by
    intro ws
    induction ws with
    | nil => intro a h; exact h
    | cons wi ws ih => intro a h; exact ih _ (ansStep_len files a h wi)
  intro ws
  exact h ws _ (by simp)
theorem any_true (l : List Bool) : (bz l).any (fun d => eqD d (.bool true)) = l.contains true := by
  induction l with
  | nil => rfl
  | cons a l ih =>
    show ((a == true) || (bz l).any fun d => eqD d (.bool true)) = _
    rw [ih, List.contains_cons]
    cases a <;> rfl
set_option maxHeartbeats 8000000 in
theorem spec_answers {ws : List Wish} {files : List Nat} (hw : ws.length ≤ 1000) (hf : files.length ≤ 1000) (hl : ∀ l, some l ∈ ws → l.length ≤ 100) :
    Spec prog w (KK w) 2 153 [.list (ws.map wishV), .list (nz files)] (.list (bz (answersOf ws files))) := by
  refine spec_intro (names := ["wishes", "files"]) (by rfl) (by kernel_rfl) (by rfl) ?_ (by decide) (by rfl) (by decide +kernel) (by rfl) (by rfl) (by rfl) (by rfl) (by rfl) (by decide +kernel) ?_
  · exact vs2 fun a b => rfl
  · refine runs_cons (run_assignC (v := .d (.list (bz (ansFrom files [])))) ?_ (by rfl) (by rfl) ?_)
    · rw [show bz (ansFrom files []) = files.map (fun _ => D.bool false) ++ [.bool true] by simp only [ansFrom, List.foldl_nil, bz, List.map_append, List.map_map]; rfl]
      exact ev_binop (ev_comp1 [] files dz (fun _ => .bool false) (src_of cv (iters_list (seg_len (by simp; omega)))) (scopeOk [] .nil) (fun a ha => ev_bool) (seg_len (by omega))) (ev_list (ds := [.bool true]) (evl_cons ev_bool evl_nil) (seg_len (by simp))) (op_add_list (by simp; rw [sizeLine_eq]; omega))
    refine runs_cons (run_forH ws.reverse wishV (fun d => [("wish", d)]) (fun i => ⟨[("answers", .d (.list (bz (ansFrom files (ws.reverse.take i))))), ("files", .d (.list (nz files)))], []⟩) (fun _ => True) (src_of (di := .list (ws.reverse.map wishV)) ?_ (iters_list (seg_len (by simp; omega)))) (fun p hp => binds_cell (by rfl) (by rfl)) (has rfl ⟨rfl, rfl, trivial⟩) trivial (fun i p hi _ => ?_) fun _ => ?_)
    · rw [List.map_reverse]; exact ev_rev_list lv (seg_len (by simp; omega))
    · have hnext : ansFrom files (ws.reverse.take (i + 1)) = ansStep files (ansFrom files (ws.reverse.take i)) p := by
        unfold ansFrom
        rw [List.take_add_one, hi, List.foldl_append]; rfl
      rw [hnext]
      have hal := ansFrom_len files (ws.reverse.take i)
      generalize ansFrom files (ws.reverse.take i) = ans at hal ⊢
      cases p with
      | none =>
        refine runs_cons (run_if (b := starTxt == starTxt) (seq cv (st starTxt)) (fun h => ?_) fun h => absurd h (by decide))
        refine runs_cons (run_assignC (v := .d (.list (bz (ansStep files ans none)))) ?_ (by rfl) (by rfl) (runs_nil (runs_nil ⟨trivial, has rfl ⟨rfl, rfl, trivial⟩⟩)) swapsC_of)
        rw [show bz (ansStep files ans none) = (List.range ans.length).map fun p => D.bool ((ans.drop p).contains true) by simp only [ansStep, bz, List.map_map]; rfl]
        refine ev_comp1 [("answers", .list (bz ans))] (List.range ans.length) dz (fun p => D.bool ((ans.drop p).contains true)) ?_ (scopeOk ["answers"] (.cons (by rfl) (.inl (by rfl)) (by rfl) .nil)) (fun p hp => ?_) (seg_len (by simp; exact (lin [_, _] (.v 0) (.n 100000) (.s 1 (.v 1) (.n 1000) (.e 1 0 (.v 0) (.a (.v 1) (.n 1)) .z)) rfl hf hal)))
        · rw [show (List.range ans.length).map dz = rngItems 0 1 ans.length from (rngItems_up _).symm]
          refine src_of (ev_tcall (ds := [dz ans.length]) bv (evl_cons ?_ evl_nil) bc_range1) (iters_range1 (by exact (lin [_, _] (.a (.v 0) (.n 1)) (.n 4611686018427387904) (.s 1 (.v 1) (.n 1000) (.e 1 0 (.v 0) (.a (.v 1) (.n 1)) .z)) rfl hf hal)))
          have e : ans.length = (bz ans).length := by simp
          rw [e]
          exact llen bv cv (by simp; exact (lin [_, _] (.v 0) (.n 100000) (.s 1 (.v 1) (.n 1000) (.e 1 0 (.v 0) (.a (.v 1) (.n 1)) .z)) rfl hf hal))
        · rw [← any_true]
          have e : bz (ans.drop p) = slc (bz ans) (some (p : Int)) none := by rw [slc_from]; exact List.map_drop ..
          rw [e]
          refine ev_cmp ev_bool (ev_slice_list cv (.some lv) .none (seg_len (by simp; exact (lin [_, _] (.v 0) (.n 100000) (.s 1 (.v 1) (.n 1000) (.e 1 0 (.v 0) (.a (.v 1) (.n 1)) .z)) rfl hf hal)))) (op_in_list fun d hd => ?_)
          rw [← e] at hd
          obtain ⟨b, _, rfl⟩ := List.mem_map.mp hd
          rfl
      | some l =>
        have hll : l.length ≤ 100 := hl l (List.mem_reverse.mp (List.mem_of_getElem? hi))
        refine runs_cons (run_if (b := false) (tests_cmp cv (st starTxt) op_eq_list_str) (fun h => by cases h) fun _ => ?_)
        refine runs_cons (run_assignC (v := .d (.list (bz (ansStep files ans (some l))))) ?_ (by rfl) (by rfl) (runs_nil (runs_nil ⟨trivial, has rfl ⟨rfl, rfl, trivial⟩⟩)))
        rw [show bz (ansStep files ans (some l)) = ((List.range files.length).map fun p => D.bool (ans.getD (p + 1) false && fits l (files.getD p 0))) ++ [.bool false] by simp only [ansStep, bz, List.map_append, List.map_map]; rfl]
        refine ev_binop (ev_comp1 [("answers", .list (bz ans)), ("files", .list (nz files)), ("wish", wishD l)] (List.range files.length) dz (fun p => D.bool (ans.getD (p + 1) false && fits l (files.getD p 0))) ?_ (scopeOk ["answers", "files", "wish"] (.cons (by rfl) (.inl (by rfl)) (by rfl) (.cons (by rfl) (.inl (by rfl)) (by rfl) (.cons (by rfl) (.inl (by rfl)) (by rfl) .nil)))) (fun p hp => ?_) (seg_len (by simp; omega))) (ev_list (ds := [.bool false]) (evl_cons ev_bool evl_nil) (seg_len (by simp))) (op_add_list (by simp; rw [sizeLine_eq]; omega))
        · rw [show (List.range files.length).map dz = rngItems 0 1 files.length from (rngItems_up _).symm]
          refine src_of (ev_tcall (ds := [dz files.length]) bv (evl_cons ?_ evl_nil) bc_range1) (iters_range1 (by omega))
          have e : files.length = (nz files).length := by simp
          rw [e]
          exact llen bv cv (by simp; omega)
        · have hp' := List.mem_range.mp hp
          refine ev_and (a := ans.getD (p + 1) false) (lidx cv (nadd lv (nt 1)) (by simp; exact (lin [_, _, _] (.a (.a (.v 0) (.n 1)) (.n 1)) (.v 1) (.e 0 1 (.v 1) (.a (.v 2) (.n 1)) (.s 1 (.a (.v 0) (.n 1)) (.v 2) .z)) rfl hal hp')) ?_ (by simp; exact (lin [_, _] (.v 0) (.n 100000) (.s 1 (.v 1) (.n 1000) (.e 1 0 (.v 0) (.a (.v 1) (.n 1)) .z)) rfl hf hal))) (fun h => ?_) (fun h => by rw [h]; rfl)
          · rw [List.getElem?_map, getD_some false (by exact (lin [_, _, _] (.a (.a (.v 0) (.n 1)) (.n 1)) (.v 1) (.e 0 1 (.v 1) (.a (.v 2) (.n 1)) (.s 1 (.a (.v 0) (.n 1)) (.v 2) .z)) rfl hal hp'))]; rfl
          · rw [h, Bool.true_and]
            refine ev_call (ds := [wishD l, dz (files.getD p 0)]) gv (evl_cons cv (evl_cons (lidx cv lv (by simp; omega) ?_ (by simp; omega)) evl_nil)) (by rfl) (spec_fits hll) (by exact (Nat.le_of_ble_eq_true rfl)) (KKtab w) ⟨_, _, rfl, fun _ => rfl⟩
            rw [List.getElem?_map, getD_some 0 hp']; rfl
    · refine runs_nil ?_
      rw [List.take_length]
      exact runs_cons (run_ret cv rfl)
end
end Mine
end

-- the text N8
section
open PySem PySem.Calls PySem.W PyProof.Rows
set_option maxRecDepth 100000
namespace Mine
section
variable {prog : Program} {w : World}

set_option tactic.hygienic true in
theorem tests_meqnil {K : Frag} {n : Nat} {sx : Sx} {S : State} {e : Expr} {lp pos : Pos} {k : Nat} {l : List V} (h1 : Evals prog w K n sx S e (.mu k)) (hm : S.muts[k]? = some (.list l)) (hmk : behindInMarks .Eq (.List [] lp) = false := by with_unfolding_all rfl) : Tests prog w K n sx S (.Compare e [.Eq] [.List [] lp] pos) l.isEmpty := by
  intro A c G ad s R C hsc st
  refine wpAny_isTrue_Compare1 (wpg (h1 A c G ad s R C hsc st) fun x s₁ G₁ g₁ e₁ => ?_) hmk
  obtain ⟨a, ea, rfl⟩ := e₁
  have st₁ := st.step C g₁
  refine wpg (ev_list (ds := []) (pos := lp) evl_nil (by simp) A c G₁ ad s₁ R C hsc st₁) fun y s₂ G₂ g₂ e₂ => ?_
  have st₂ := st₁.step C g₂
  obtain ⟨a', vs, ea', hp, hv⟩ := st₂.mt k _ hm
  rw [ea] at ea'; cases ea'
  obtain ⟨b, o', vs', m', rfl, r1, r2, r3, r4⟩ := Is.inv e₂
  have hl' : s₂.heap.IsList b vs' := ⟨_, g₂.sub _ _ r1, r2, _, r3⟩
  have hlen : vs.size = l.length := by have := hv.length; simpa using this
  have hlen' : vs'.size = 0 := by have := r4.length; simpa using this
  cases l with
  | nil =>
    refine SeqAt.eq_listAt (e := fun _ => true) hp.isList hl' (by rw [hlen, hlen']; rfl) R.cline (fun j h1 h2 => absurd h2 (by exact (fun hq => (lif [_, _] (.e 1 0 (.v 0) (.n 0) (.s 1 (.a (.v 1) (.n 1)) (.v 0) .z)) rfl hlen' h2)))) ?_
    rw [show (List.range vs.size).all (fun _ => true) = true by simp]
    exact wpAny_truthy_bool ⟨G₂, g₁.trans g₂, rfl⟩
  | cons d l =>
    refine SeqAt.eq_list_lengthsAt hp.isList hl' (by rw [hlen, hlen']; simp) R.cline ?_
    exact wpAny_truthy_bool ⟨G₂, g₁.trans g₂, rfl⟩

noncomputable def sgOk (t : List Nat) (p : Nat) : Bool := decide (p < t.length) && (t.getD p 0 != 92 || decide (p + 1 < t.length))
theorem sgOk_of {t : List Nat} {p : Nat} (h : sgOk t p = true) : p < t.length ∧ (t.getD p 0 = 92 → p + 1 < t.length) := by
  unfold sgOk at h
  simp only [Bool.and_eq_true, decide_eq_true_eq, Bool.or_eq_true, bne_iff_ne, ne_eq] at h
  exact ⟨h.1, fun e => h.2.elim (fun q => absurd e q) id⟩
noncomputable def rgRest (k : Nat → List (Nat × Nat) → Option (List (Nat × Nat) × Nat)) (t : List Nat) (p : Nat) (acc : List (Nat × Nat)) : Option (List (Nat × Nat) × Nat) :=
  if !sgOk t p then none
  else if !decide ((signAt t p).2 < t.length) then none
  else if t.getD (signAt t p).2 0 == 45 then
    if !decide ((signAt t p).2 + 1 < t.length) then none
    else if t.getD ((signAt t p).2 + 1) 0 == 93 then k (signAt t p).2 (acc ++ [((signAt t p).1, (signAt t p).1)])
    else if !sgOk t ((signAt t p).2 + 1) then none
    else k (signAt t ((signAt t p).2 + 1)).2 (acc ++ [((signAt t p).1, (signAt t ((signAt t p).2 + 1)).1)])
  else k (signAt t p).2 (acc ++ [((signAt t p).1, (signAt t p).1)])
noncomputable def rgLoop : Nat → List Nat → Nat → List (Nat × Nat) → Option (List (Nat × Nat) × Nat)
  | 0, _, _, _ => none
  | f + 1, t, p, acc =>
    if t.take 2 == [91, 94] then some (acc, p)
    else if !acc.isEmpty && !decide (p < t.length) then none
    else if !acc.isEmpty && t.getD p 0 == 93 then some (acc, p)
    else rgRest (fun p acc => rgLoop f t p acc) t p acc
noncomputable def rangesOf (t : List Nat) : Option (List (Nat × Nat)) :=
  if t == [46] then some [(0, 255)]
  else if t == [92, 45] || t.length == 1 then some [(t.getD (t.length - 1) 0, t.getD (t.length - 1) 0)]
  else match rgLoop (t.length + 2) t 1 [] with
    | none => none
    | some r => some (if t.getD 0 0 == 91 && t.drop r.2 == [93] then r.1 else [])
noncomputable def rgNext (t : List Nat) (p : Nat) : Nat × Nat := if t.getD (signAt t p).2 0 == 45 && t.getD ((signAt t p).2 + 1) 0 != 93 then signAt t ((signAt t p).2 + 1) else signAt t p
theorem bl1 : ∀ a e q : Bool, (!a && (e || !q)) = false → (a || (!e && q)) = true := by decide
theorem bl2 : ∀ a e q : Bool, (!a && (e || !q)) = true → a = false ∧ (!e && q) = false := by decide
theorem ite3 {α : Type} {a b c : Bool} {y x : Option α} {r : α} (h : (if a then y else if b then none else if c then y else x) = some r) : (a = false → b = false) ∧ (a = false → c = false → x = some r) ∧ ((a || c) = true → y = some r) := by
  cases a with
  | true => exact ⟨(fun q => nomatch q), (fun q => nomatch q), fun _ => h⟩
  | false =>
    cases b with
    | true => cases h
    | false =>
      cases c with
      | true => exact ⟨fun _ => rfl, (fun _ q => nomatch q), fun _ => h⟩
      | false => exact ⟨fun _ => rfl, fun _ _ => h, (fun q => nomatch q)⟩
theorem iteR {α : Type} {a b c d e g : Bool} {x y : Option α} {r : α} (h : (if !a then none else if !b then none else if c then (if !d then none else if e then x else if !g then none else y) else x) = some r) :
    a = true ∧ b = true ∧ (c = true → d = true) ∧ ((c && !e) = true → g = true ∧ y = some r) ∧ ((c && !e) = false → x = some r) := by
  cases a with
  | false => cases h
  | true =>
    cases b with
    | false => cases h
    | true =>
      cases c with
      | false => exact ⟨rfl, rfl, (fun q => nomatch q), (fun q => nomatch q), fun _ => h⟩
      | true =>
        cases d with
        | false => cases h
        | true =>
          cases e with
          | true => exact ⟨rfl, rfl, fun _ => rfl, (fun q => nomatch q), fun _ => h⟩
          | false =>
            cases g with
            | false => cases h
            | true => exact ⟨rfl, rfl, fun _ => rfl, fun _ => ⟨rfl, h⟩, (fun q => nomatch q)⟩
theorem rgNext_y {t : List Nat} {p : Nat} (h : (t.getD (signAt t p).2 0 == 45 && t.getD ((signAt t p).2 + 1) 0 != 93) = true) : rgNext t p = signAt t ((signAt t p).2 + 1) := by unfold rgNext; rw [h]; rfl
theorem rgNext_n {t : List Nat} {p : Nat} (h : (t.getD (signAt t p).2 0 == 45 && t.getD ((signAt t p).2 + 1) 0 != 93) = false) : rgNext t p = signAt t p := by unfold rgNext; rw [h]; rfl
theorem rgRest_step {k : Nat → List (Nat × Nat) → Option (List (Nat × Nat) × Nat)} {t : List Nat} {p : Nat} {acc : List (Nat × Nat)} {res : List (Nat × Nat) × Nat} (h : rgRest k t p acc = some res) :
    sgOk t p = true ∧ (signAt t p).2 < t.length ∧ (t.getD (signAt t p).2 0 = 45 → (signAt t p).2 + 1 < t.length) ∧ ((t.getD (signAt t p).2 0 == 45 && t.getD ((signAt t p).2 + 1) 0 != 93) = true → sgOk t ((signAt t p).2 + 1) = true) ∧ k (rgNext t p).2 (acc ++ [((signAt t p).1, (rgNext t p).1)]) = some res := by
  obtain ⟨q1, q2, q3, q4, q5⟩ := iteR h
  refine ⟨q1, of_decide_eq_true q2, fun e => of_decide_eq_true (q3 (by rw [e]; rfl)), fun e => (q4 e).1, ?_⟩
  cases q : (t.getD (signAt t p).2 0 == 45 && t.getD ((signAt t p).2 + 1) 0 != 93) with
  | true => rw [rgNext_y q]; exact (q4 q).2
  | false => rw [rgNext_n q]; exact q5 q
theorem one_bne (a b : Nat) : ([a] != [b]) = (a != b) := by rw [bne, bne, one_beq]
noncomputable abbrev rvs (l : List (Nat × Nat)) : List V := l.map fun r => V.d (rngD r)
theorem rvs_eq (l : List (Nat × Nat)) : rvs l = (l.map rngD).map V.d := by simp [rvs, List.map_map]

noncomputable abbrev rgS (t : List Nat) (a : Nat × Nat × List (Nat × Nat)) : State := ⟨[("place", .d (dz a.2.1)), ("ranges", .mu 0), ("part", .d (ds t))], [.list (rvs a.2.2)]⟩
set_option tactic.hygienic true in
set_option maxHeartbeats 8000000 in
theorem spec_ranges {t : List Nat} {rs : List (Nat × Nat)} (h : rangesOf t = some rs) (hb : t.length ≤ 1000) : Spec prog w (KK w) 2 167 [ds t] (setD rs) := by
  refine spec_intro (names := ["part"]) (by rfl) (by kernel_rfl) (by rfl) ?_ (by decide) (by rfl) (by decide +kernel) (by rfl) (by rfl) (by rfl) (by rfl) (by rfl) (by decide +kernel) ?_
  · exact vs1 fun a => rfl
  · refine runs_cons (run_if (b := t == [46]) (seq lv (st [46])) (fun h1 => ?_) fun h1 => runs_nil ?_)
    · have : rs = [(0, 255)] := by unfold rangesOf at h; rw [h1] at h; simpa using h.symm
      subst this
      exact runs_cons (run_ret (ev_list (ds := [rngD (0, 255)]) (evl_cons (ev_tuple (ds := [ds [0], ds [255]]) (evl_cons (schr bv (nt 0) (by exact (Nat.le_of_ble_eq_true rfl))) (evl_cons (schr bv (nt 255) (by exact (Nat.le_of_ble_eq_true rfl))) evl_nil)) (seg_len (by simp))) evl_nil) (seg_len (by simp))) rfl)
    refine runs_cons (run_if (b := t == [92, 45] || t.length == 1) (tests_or (seq lv (st [92, 45])) fun _ => neq (slen bv lv (by omega)) (nt 1)) (fun h2 => ?_) fun h2 => runs_nil ?_)
    · have : rs = [(t.getD (t.length - 1) 0, t.getD (t.length - 1) 0)] := by unfold rangesOf at h; rw [h1, h2] at h; simpa using h.symm
      subst this
      have hlen : 0 < t.length := by
        simp only [Bool.or_eq_true, beq_iff_eq] at h2
        rcases h2 with h2 | h2
        · rw [h2]; decide
        · exact (lin [_] (.a (.n 0) (.n 1)) (.v 0) (.e 0 1 (.v 0) (.n 1) .z) rfl h2)
      have hidx : seqIndex? (-1) t.length = some (t.length - 1) := by
        unfold seqIndex?
        simp only [show (-1 : Int) < 0 by decide, if_true]
        rw [if_pos (by simp; lia)]
        congr 1; lia
      have last : ∀ {S : State} {sx : Sx} {e : Expr} {k : Nat} {p p2 p3 : Pos}, Evals prog w (KK w) 1 sx S e (.d (ds t)) → (∀ x t i u, subscripted (.UnaryOp .USub (.Constant (.int 1) k p) p2) false (.str x t) (.int i u) = operate [.str x t, .int i u] (getItem (.str x t) (.int i u))) → Evals prog w (KK w) 1 sx S (.Subscript e (.UnaryOp .USub (.Constant (.int 1) k p) p2) p3) (.d (ds [t.getD (t.length - 1) 0])) := fun {S sx e k p p2 p3} he hs =>
        ev_sub he ev_neg (sub_str hidx (getD_some 0 (by exact (lin [_, _] (.a (.v 0) (.n 1)) (.v 1) (.e 1 0 (.a (.v 0) (.n 1)) (.v 1) .z) rfl (Nat.sub_add_cancel (lin [_] (.n 1) (.v 0) (.s 1 (.a (.n 0) (.n 1)) (.v 0) .z) rfl hlen))))) (seg_len (by omega)) hs)
      exact runs_cons (run_ret (ev_list (ds := [rngD (t.getD (t.length - 1) 0, t.getD (t.length - 1) 0)]) (evl_cons (ev_tuple (ds := [ds [_], ds [_]]) (evl_cons (last lv (by intro _ _ _ _; with_unfolding_all rfl)) (evl_cons (last lv (by intro _ _ _ _; with_unfolding_all rfl)) evl_nil)) (seg_len (by simp))) evl_nil) (seg_len (by simp))) rfl)
    obtain ⟨res, hres, hrs⟩ : ∃ res, rgLoop (t.length + 2) t 1 [] = some res ∧ rs = (if t.getD 0 0 == 91 && t.drop res.2 == [93] then res.1 else []) := by
      unfold rangesOf at h
      rw [h1, h2] at h
      simp only [Bool.false_eq_true, if_false] at h
      cases q : rgLoop (t.length + 2) t 1 [] with
      | none => rw [q] at h; cases h
      | some r => rw [q] at h; exact ⟨r, rfl, by simpa using h.symm⟩
    refine runs_cons (run_assignM (evM_list (vs := []) evl_nil (by simp)) (by rfl) ?_)
    refine runs_cons (run_assign (v := .d (dz 1)) (nt 1) (by rfl) ?_)
    refine runs_join (rgS t (0, res.2, res.1)) (run_whileH (m := fun a => a.1) (C := rgS t) (P := fun a => rgLoop a.1 t a.2.1 a.2.2 = some res ∧ a.2.2.length + a.1 ≤ 2000) (a₀ := (t.length + 2, 1, [])) (has rfl ⟨rfl, rfl, rfl, trivial⟩) ⟨hres, by simp; omega⟩
      (t := fun a => (t.take 2 != [91, 94]) && (a.2.2.isEmpty || t.getD a.2.1 0 != 93)) (fun a hP => ?_) (fun a hP ht => ?_) (fun a hP ht => ?_)) ?_
    · obtain ⟨f, p, acc⟩ := a
      obtain ⟨hP, hsz⟩ := hP
      have e : acc.isEmpty = (rvs acc).isEmpty := by cases acc <;> rfl
      show Tests _ _ _ _ _ _ _ (t.take 2 != [91, 94] && (acc.isEmpty || t.getD p 0 != 93))
      rw [e]
      refine tests_and (sne ?_ (st [91, 94])) fun h3 => tests_or (tests_meqnil lv (by rfl)) fun h4 => ?_
      · rw [← slc_to t 2]; exact ev_slice_str lv .none (.some ev_int) (seg_len (by omega))
      · rw [← one_bne]
        refine sne (sidx lv lv ?_ (by omega)) (st [93])
        have h3' : (t.take 2 == [91, 94]) = false := by simpa [bne] using h3
        have h4' : acc.isEmpty = false := by rw [e]; exact h4
        cases f with
        | zero => cases hP
        | succ f =>
          have q := (ite3 hP).1 h3'
          rw [h4'] at q
          exact of_decide_eq_true (by simpa using q)
    · obtain ⟨f, p, acc⟩ := a
      obtain ⟨hP, hsz⟩ := hP
      have ht' : (t.take 2 != [91, 94] && (acc.isEmpty || t.getD p 0 != 93)) = true := ht
      obtain ⟨h3, h4⟩ := bl2 _ _ _ ht'
      cases f with
      | zero => cases hP
      | succ f =>
      obtain ⟨k1, k2, k3, k4, k5⟩ := rgRest_step ((ite3 hP).2.1 h3 h4)
      obtain ⟨k1a, k1b⟩ := sgOk_of k1
      have call : ∀ {S : State} {sx : Sx} {fn e1 e2 : Expr} {pos : Pos} {p : Nat}, sgOk t p = true → Evals prog w (KK w) 1 sx S fn (.d (.raw (.ref 160))) → Evals prog w (KK w) 1 sx S e1 (.d (ds t)) → Evals prog w (KK w) 1 sx S e2 (.d (dz p)) → (∀ env, starEach [e1, e2] env = (false, eval e1 env) :: starEach [e2] env) → (∀ env, starEach [e2] env = (false, eval e2 env) :: starEach [] env) → (∀ env, eval (.Call fn [e1, e2] [] pos) env = (do callWith pos (← eval fn env) [] (backTo pos (starEach [e1, e2] env)) (backToKw pos (keywordEach [] env)))) → Evals prog w (KK w) 1 sx S (.Call fn [e1, e2] [] pos) (.d (.tuple [ds [(signAt t p).1], dz (signAt t p).2])) := fun {S sx fn e1 e2 pos p} hok hf h1 h2 hs1 hs2 he =>
        ev_call (ds := [ds t, dz p]) hf (evl_cons h1 (evl_cons h2 evl_nil hs2) hs1) (by rfl) (spec_sign (sgOk_of hok).1 (sgOk_of hok).2 (by omega)) (by exact (Nat.le_of_ble_eq_true rfl)) (KKtab w) ⟨_, _, rfl, hs1⟩ he
      refine runs_cons (run_unpack (upd := [("low", ds [(signAt t p).1]), ("place", dz (signAt t p).2)]) (call k1 gv lv lv (by intro _; rfl) (by intro _; rfl) (by intro _; rfl)) (binds_tuple unpacks_tuple (bindsL_cons (binds_name (by rfl)) (bindsL_cons (binds_name (by rfl)) bindsL_nil))) ?_)
      refine runs_cons (run_assign (v := .d (ds [(signAt t p).1])) lv (by rfl) ?_)
      refine runs_join ⟨[("low", .d (ds [(signAt t p).1])), ("high", .d (ds [(rgNext t p).1])), ("place", .d (dz (rgNext t p).2)), ("ranges", .mu 0), ("part", .d (ds t))], [.list (rvs acc)]⟩ (run_if (b := t.getD (signAt t p).2 0 == 45 && t.getD ((signAt t p).2 + 1) 0 != 93) (tests_and ?_ fun hq => ?_) (fun hq => ?_) fun hq => ?_) ?_
      · rw [← one_beq]; exact seq (sidx lv lv k2 (by omega)) (st [45])
      · rw [← one_bne]; exact sne (sidx lv (nadd lv (nt 1)) (k3 (by simpa using hq)) (by omega)) (st [93])
      · have e : rgNext t p = signAt t ((signAt t p).2 + 1) := by unfold rgNext; rw [hq]; rfl
        rw [e]
        exact runs_cons (run_unpack (upd := [("high", ds [(signAt t ((signAt t p).2 + 1)).1]), ("place", dz (signAt t ((signAt t p).2 + 1)).2)]) (call (k4 hq) gv lv (nadd lv (nt 1)) (by intro _; rfl) (by intro _; rfl) (by intro _; rfl)) (binds_tuple unpacks_tuple (bindsL_cons (binds_name (by rfl)) (bindsL_cons (binds_name (by rfl)) bindsL_nil))) (runs_nil (has rfl ⟨rfl, rfl, rfl, rfl, rfl, trivial⟩)))
      · have e : rgNext t p = signAt t p := by unfold rgNext; rw [hq]; rfl
        rw [e]
        exact runs_nil (has rfl ⟨rfl, rfl, rfl, rfl, rfl, trivial⟩)
      · have hsz' : acc.length + (f + 1) ≤ 2000 := hsz
        refine runs_cons (run_append lv (evM_of (ev_tuple (ds := [ds [(signAt t p).1], ds [(rgNext t p).1]]) (evl_cons lv (evl_cons lv evl_nil)) (seg_len (by simp)))) (by rfl) (by rfl) (seg_len (by simp; exact (lin [_, _] (.v 0) (.n 100000) (.s 1 (.a (.v 0) (.a (.v 1) (.n 1))) (.n 2000) .z) rfl hsz))) (runs_nil ?_))
        refine ⟨(f, (rgNext t p).2, acc ++ [((signAt t p).1, (rgNext t p).1)]), Nat.lt_succ_self f, ⟨k5, by simp; exact (lin [_, _] (.a (.a (.v 0) (.n 1)) (.v 1)) (.n 2000) (.s 1 (.a (.v 0) (.a (.v 1) (.n 1))) (.n 2000) .z) rfl hsz)⟩, has ?_ ⟨rfl, rfl, rfl, trivial⟩⟩
        show [Mut.list (rvs acc ++ [_])] = [Mut.list (rvs (acc ++ [_]))]
        simp only [rvs, List.map_append]; rfl
    · obtain ⟨f, p, acc⟩ := a
      obtain ⟨hP, hsz⟩ := hP
      have ht' : (t.take 2 != [91, 94] && (acc.isEmpty || t.getD p 0 != 93)) = false := ht
      have hr : res = (acc, p) := by
        cases f with
        | zero => cases hP
        | succ f => exact (Option.some.inj ((ite3 hP).2.2 (bl1 _ _ _ ht'))).symm
      subst hr
      exact runs_nil (has rfl ⟨rfl, rfl, rfl, trivial⟩)
    · refine runs_freeze (k := 0) (ds := res.1.map rngD) (by rw [← rvs_eq]; rfl) ?_
      subst hrs
      have hpos : 0 < t.length := by
        rcases Nat.eq_zero_or_pos t.length with q | q
        · have : t = [] := List.length_eq_zero_iff.mp q
          subst this
          cases hres
        · exact q
      refine runs_cons (run_ret (d := setD (if t.getD 0 0 == 91 && t.drop res.2 == [93] then res.1 else [])) (ev_ifexp (b := t.getD 0 0 == 91 && t.drop res.2 == [93]) (tests_and ?_ fun _ => ?_) (fun q => ?_) fun q => ?_) rfl)
      · rw [← one_beq]; exact seq (sidx lv (nt 0) hpos (by omega)) (st [91])
      · refine seq ?_ (st [93])
        rw [← slc_from t res.2]
        exact ev_slice_str lv (.some lv) .none (seg_len (by omega))
      · rw [q]; exact lv
      · rw [q]; exact ev_list (ds := []) evl_nil (by simp)
end
end Mine
end

-- the text N9
section
open PySem PySem.Calls PySem.W PyProof.Rows
set_option maxRecDepth 100000
namespace Mine
section
variable {prog : Program} {w : World}

abbrev RSet := List (Nat × Nat)
noncomputable def partD : Option (List Nat) → D
  | none => .none
  | some t => ds t
noncomputable def pcStep (s : List (List RSet) × List RSet) : Option (List Nat) → List (List RSet) × List RSet
  | none => (s.1 ++ [s.2], [])
  | some t => (s.1, s.2 ++ [(rangesOf t).getD []])
noncomputable def pcFrom (parts : List (Option (List Nat))) : List (List RSet) × List RSet := parts.foldl pcStep ([], [])
noncomputable def piecesOf (parts : List (Option (List Nat))) : List (List RSet) := (pcFrom parts).1 ++ [(pcFrom parts).2]
noncomputable abbrev svs (l : List RSet) : List V := l.map fun s => V.d (setD s)
noncomputable abbrev gvs (l : List (List RSet)) : List V := l.map fun s => V.d (setsD s)
noncomputable def pcMuts (s : List (List RSet) × List RSet) : List Mut :=
  match s.1 with
  | [] => [.list (svs s.2), .list [.mu 0]]
  | g :: r => .dead :: .list (gvs (g :: r) ++ [.mu (r.length + 2)]) :: (List.replicate r.length .dead ++ [.list (svs s.2)])
noncomputable abbrev pcS (s : List (List RSet) × List RSet) : State := ⟨[("pieces", .mu 1)], pcMuts s⟩
theorem svs_eq (l : List RSet) : svs l = (l.map setD).map V.d := by simp [svs, List.map_map]
theorem gvs_eq (l : List (List RSet)) : gvs l = (l.map setsD).map V.d := by simp [gvs, List.map_map]
theorem fz_d (k : Nat) (x : List D) (l : List D) : (l.map V.d).map (V.fz k x) = l.map V.d := by
  rw [List.map_map]; rfl
/-- the current group, frozen -/
noncomputable def pcDone (s : List (List RSet) × List RSet) : List Mut := .dead :: .list (gvs (s.1 ++ [s.2])) :: List.replicate s.1.length .dead
noncomputable def pcIx (s : List (List RSet) × List RSet) : Nat := match s.1 with
  | [] => 0
  | _ :: r => r.length + 2
theorem pc_freeze (s : List (List RSet) × List RSet) : (pcS s).freeze (pcIx s) (s.2.map setD) = ⟨[("pieces", .mu 1)], pcDone s⟩ ∧ (pcS s).muts[pcIx s]? = some (.list ((s.2.map setD).map V.d)) := by
  obtain ⟨done, cur⟩ := s
  cases done with
  | nil =>
    refine ⟨?_, by rw [← svs_eq]; rfl⟩
    rfl
  | cons g r =>
    constructor
    · have e1 : (gvs (g :: r) ++ [V.mu (r.length + 2)]).map (V.fz (r.length + 2) (cur.map setD)) = gvs (g :: r ++ [cur]) := by
        rw [List.map_append, gvs_eq, fz_d, gvs_eq, List.map_append, List.map_append]
        congr 1
        show [V.fz (r.length + 2) (cur.map setD) (.mu (r.length + 2))] = _
        simp only [V.fz, if_true]
        rfl
      have e2 : ((List.replicate r.length Mut.dead ++ [Mut.list (svs cur)]).map (Mut.fz (r.length + 2) (cur.map setD))).set r.length .dead = List.replicate (r.length + 1) .dead := by
        rw [List.map_append, List.map_replicate, List.set_append_right _ _ (by simp)]
        simp only [List.length_replicate, Nat.sub_self, List.map_cons, List.map_nil, List.set_cons_zero]
        rw [List.replicate_succ']
        rfl
      show State.mk _ (Mut.dead :: Mut.list ((gvs (g :: r) ++ [V.mu (r.length + 2)]).map (V.fz (r.length + 2) (cur.map setD))) :: (((List.replicate r.length Mut.dead ++ [Mut.list (svs cur)]).map (Mut.fz (r.length + 2) (cur.map setD))).set r.length .dead)) = _
      rw [e1, e2]
      rfl
    · rw [← svs_eq]
      show (Mut.dead :: .list _ :: (List.replicate r.length .dead ++ [.list (svs cur)]))[r.length + 2]? = _
      simp
theorem pcDone_new (s : List (List RSet) × List RSet) : ((State.mk [("pieces", .mu 1)] (pcDone s)).new (.list [])).upd 1 (.list (gvs (s.1 ++ [s.2]) ++ [.mu (s.1.length + 2)])) = pcS (s.1 ++ [s.2], []) := by
  obtain ⟨done, cur⟩ := s
  cases done with
  | nil => rfl
  | cons g r =>
    show State.mk _ (Mut.dead :: Mut.list (gvs ((g :: r) ++ [cur]) ++ [.mu ((g :: r).length + 2)]) :: (List.replicate (r.length + 1) .dead ++ [.list []])) = State.mk _ (pcMuts (g :: r ++ [cur], []))
    show _ = State.mk _ (Mut.dead :: Mut.list (gvs (g :: (r ++ [cur])) ++ [.mu ((r ++ [cur]).length + 2)]) :: (List.replicate (r ++ [cur]).length .dead ++ [.list (svs [])]))
    simp
    rfl
theorem pc_last (s : List (List RSet) × List RSet) : ∃ l : List V, (pcS s).muts[1]? = some (.list l) ∧ l.length = s.1.length + 1 ∧ l[s.1.length]? = some (.mu (pcIx s)) := by
  obtain ⟨done, cur⟩ := s
  cases done with
  | nil => exact ⟨[.mu 0], rfl, rfl, rfl⟩
  | cons g r =>
    refine ⟨gvs (g :: r) ++ [.mu (r.length + 2)], rfl, by simp, ?_⟩
    simp [pcIx]
theorem pc_upd (s : List (List RSet) × List RSet) (x : RSet) : (pcS s).upd (pcIx s) (.list (svs s.2 ++ [.d (setD x)])) = pcS (s.1, s.2 ++ [x]) := by
  obtain ⟨done, cur⟩ := s
  cases done with
  | nil =>
    show State.mk _ [.list (svs cur ++ [.d (setD x)]), .list [.mu 0]] = State.mk _ [.list (svs (cur ++ [x])), .list [.mu 0]]
    simp
  | cons g r =>
    show State.mk _ (Mut.dead :: .list (gvs (g :: r) ++ [.mu (r.length + 2)]) :: ((List.replicate r.length Mut.dead ++ [Mut.list (svs cur)]).set r.length (Mut.list (svs cur ++ [V.d (setD x)])))) = State.mk _ (Mut.dead :: .list (gvs (g :: r) ++ [.mu (r.length + 2)]) :: (List.replicate r.length .dead ++ [.list (svs (cur ++ [x]))]))
    rw [List.set_append_right _ _ (by simp)]
    simp
theorem pcFrom_len : ∀ (parts : List (Option (List Nat))) (s : List (List RSet) × List RSet), (parts.foldl pcStep s).1.length + (parts.foldl pcStep s).2.length ≤ s.1.length + s.2.length + parts.length
  | [], s => by simp
  | p :: r, s => by
    have h := pcFrom_len r (pcStep s p)
    have h2 : (pcStep s p).1.length + (pcStep s p).2.length ≤ s.1.length + s.2.length + 1 := by
      cases p <;> simp [pcStep] <;> exact (lin [_, _] (.a (.v 0) (.a (.v 1) (.n 1))) (.a (.a (.v 0) (.v 1)) (.n 1)) .z rfl)
    simp only [List.foldl_cons, List.length_cons]; exact (lin [_, _, _, _, _, _, _] (.a (.v 0) (.v 1)) (.a (.a (.v 2) (.v 3)) (.a (.v 4) (.n 1))) (.s 1 (.a (.v 0) (.v 1)) (.a (.a (.v 5) (.v 6)) (.v 4)) (.s 1 (.a (.v 5) (.v 6)) (.a (.a (.v 2) (.v 3)) (.n 1)) .z)) rfl h h2)
set_option maxHeartbeats 8000000 in
theorem spec_pieces {parts : List (Option (List Nat))} (hp : parts.length ≤ 1000) (hr : ∀ t, some t ∈ parts → (rangesOf t).isSome = true ∧ t.length ≤ 1000) : Spec prog w (KK w) 3 174 [.list (parts.map partD)] (.list ((piecesOf parts).map setsD)) := by
  refine spec_intro (names := ["parts"]) (by rfl) (by kernel_rfl) (by rfl) ?_ (by decide) (by rfl) (by decide +kernel) (by rfl) (by rfl) (by rfl) (by rfl) (by rfl) (by decide +kernel) ?_
  · exact vs1 fun a => rfl
  · refine runs_cons (run_assignM (evM_list1 (evM_list (vs := []) evl_nil (by simp))) (by rfl) ?_)
    refine runs_cons (run_forH parts partD (fun d => [("part", d)]) (fun i => pcS (pcFrom (parts.take i))) (fun _ => True) (src_of lv (iters_list (seg_len (by simp; omega)))) (fun p hp => binds_name (by rfl)) (has rfl ⟨rfl, trivial⟩) trivial (fun i p hi _ => ?_) fun _ => ?_)
    · have hnext : pcFrom (parts.take (i + 1)) = pcStep (pcFrom (parts.take i)) p := by
        unfold pcFrom
        rw [List.take_add_one, hi, List.foldl_append]; rfl
      rw [hnext]
      have hsz := pcFrom_len (parts.take i) ([], [])
      have hti : (parts.take i).length ≤ 1000 := by rw [List.length_take]; exact (lin [_, _] (.v 0) (.n 1000) (.s 1 (.v 1) (.n 1000) (.s 1 (.v 0) (.v 1) .z)) rfl hp (Nat.min_le_right _ _))
      have hsz' : (pcFrom (parts.take i)).1.length + (pcFrom (parts.take i)).2.length ≤ 1000 := by
        unfold pcFrom; simp only [List.length_nil] at hsz; exact (lin [_, _, _] (.a (.v 0) (.v 1)) (.n 1000) (.s 1 (.a (.v 0) (.v 1)) (.a (.a (.n 0) (.n 0)) (.v 2)) (.s 1 (.v 2) (.n 1000) .z)) rfl hsz hti)
      generalize pcFrom (parts.take i) = s at hsz' ⊢
      cases p with
      | none =>
        have hweak : ∀ {Q : Fl → State → Prop} {sts : List Stmt} {sx : Sx}, Runs prog w (KK w) 2 sx (pcS s) sts Q → Runs prog w (KK w) 2 sx (setAll [("part", D.none)] (pcS s)) sts Q := fun h => Has.runs (has (C := pcS s) rfl ⟨rfl, trivial⟩) h
        refine runs_cons (run_if (b := true) (tests_cmp lv ev_none (op_is_none (.inl rfl))) (fun _ => ?_) fun h => by cases h)
        refine hweak (runs_freeze (pc_freeze s).2 ?_)
        rw [(pc_freeze s).1]
        refine runs_cons (run_append (l₀ := gvs (s.1 ++ [s.2])) (l := gvs (s.1 ++ [s.2])) lv (evM_list (vs := []) evl_nil (by simp)) (by rfl) (by rfl) (seg_len (by simp; exact (lin [_, _] (.v 0) (.n 99999) (.s 1 (.a (.v 0) (.v 1)) (.n 1000) .z) rfl hsz'))) (runs_nil (runs_nil ⟨trivial, ?_⟩)))
        have e : (State.mk [("pieces", .mu 1)] (pcDone s)).muts.length = s.1.length + 2 := by simp [pcDone]
        rw [e, pcDone_new]
        exact .refl _
      | some t =>
        obtain ⟨hok, htl⟩ := hr t (List.mem_of_getElem? hi)
        obtain ⟨rs, hrs⟩ := Option.isSome_iff_exists.mp hok
        refine runs_cons (run_if (b := false) (tests_cmp lv ev_none op_is_none_str) (fun h => by cases h) fun _ => ?_)
        obtain ⟨l, hl1, hl2, hl3⟩ := pc_last s
        have hidx : seqIndex? (-1) l.length = some s.1.length := by
          unfold seqIndex?
          simp only [show (-1 : Int) < 0 by decide, if_true]
          rw [if_pos (by simp; lia)]
          congr 1; grind
        have hcur : (setAll [("part", partD (some t))] (pcS s)).muts[pcIx s]? = some (.list (svs s.2)) := by
          have := (pc_freeze s).2
          rw [← svs_eq] at this
          exact this
        have hst : pcStep s (some t) = (s.1, s.2 ++ [rs]) := by
          show (s.1, s.2 ++ [(rangesOf t).getD []]) = _
          rw [hrs]; rfl
        rw [hst]
        refine runs_cons (run_append (k := pcIx s) (l₀ := svs s.2) (l := svs s.2) (ev_midx lv ev_neg hl1 hidx hl3 (by exact (lin [_, _, _] (.v 0) (.n 100000) (.s 1 (.a (.v 1) (.v 2)) (.n 1000) (.e 1 0 (.v 0) (.a (.v 1) (.n 1)) .z)) rfl hsz' hl2))) (evM_of (ev_call (ds := [ds t]) gv (evl_cons lv evl_nil) (by rfl) (spec_ranges hrs htl) (by exact (Nat.le_of_ble_eq_true rfl)) (KKtab w) ⟨_, _, rfl, fun _ => rfl⟩)) hcur hcur (seg_len (by simp; exact (lin [_, _] (.v 0) (.n 100000) (.s 1 (.a (.v 1) (.v 0)) (.n 1000) .z) rfl hsz'))) (runs_nil (runs_nil ⟨trivial, ?_⟩)))
        have e := pc_upd s rs
        have e' : ((pcS s).upd (pcIx s) (.list (svs s.2 ++ [.d (setD rs)]))).muts = (pcS (s.1, s.2 ++ [rs])).muts := congrArg State.muts e
        exact has e' ⟨rfl, trivial⟩
    · refine runs_nil ?_
      rw [List.take_length]
      refine runs_freeze (pc_freeze _).2 ?_
      rw [(pc_freeze _).1]
      refine runs_freeze (k := 1) (ds := (piecesOf parts).map setsD) (by rw [← gvs_eq]; rfl) ?_
      exact runs_cons (run_ret (d := .list ((piecesOf parts).map setsD)) lv rfl)
end
end Mine
end

-- the text N10
section
open PySem PySem.Calls PySem.W PyProof.Rows
set_option maxRecDepth 100000
namespace Mine
section
variable {prog : Program} {w : World}

noncomputable def findAt (s : List RSet) (name : List Nat) : Nat → Nat → Option Nat
  | 0, _ => none
  | f + 1, p => if lies s name p then some p else if name.length < p + 1 then none else findAt s name f (p + 1)
noncomputable def midLoop (name : List Nat) : List (List RSet) → Nat → Option Nat
  | [], p => some p
  | s :: r, p => match findAt s name (name.length + 1 - p) p with
    | none => none
    | some q => midLoop name r (q + s.length)
noncomputable def takes (ps : List (List RSet)) (name : List Nat) : Bool :=
  if !lies (ps.getD 0 []) name 0 then false
  else if ps.length == 1 then (ps.getD 0 []).length == name.length
  else match midLoop name ((ps.drop 1).dropLast) (ps.getD 0 []).length with
    | none => false
    | some p => decide (p + (ps.getD (ps.length - 1) []).length ≤ name.length) && lies (ps.getD (ps.length - 1) []) name (name.length - (ps.getD (ps.length - 1) []).length)
theorem findAt_succ (s : List RSet) (name : List Nat) (f p : Nat) : findAt s name (f + 1) p = if lies s name p then some p else if name.length < p + 1 then none else findAt s name f (p + 1) := rfl
theorem lies_len {s : List RSet} {name : List Nat} {p : Nat} (h : lies s name p = true) : p + s.length ≤ name.length := by
  unfold lies at h; simp only [Bool.and_eq_true, decide_eq_true_eq] at h; exact h.1
set_option tactic.hygienic true in
theorem findAt_lies {s : List RSet} {name : List Nat} : ∀ {f p q : Nat}, findAt s name f p = some q → lies s name q = true
  | 0, _, _, h => by cases h
  | f + 1, p, q, h => by
    unfold findAt at h
    split at h
    · rename_i h1; cases h; exact h1
    · split at h
      · cases h
      · exact findAt_lies h
theorem midLoop_app (name : List Nat) : ∀ (a b : List (List RSet)) (p : Nat), midLoop name (a ++ b) p = (midLoop name a p).bind (midLoop name b)
  | [], b, p => rfl
  | s :: a, b, p => by
    show (match findAt s name (name.length + 1 - p) p with | none => none | some q => midLoop name (a ++ b) (q + s.length)) = (match findAt s name (name.length + 1 - p) p with | none => none | some q => midLoop name a (q + s.length)).bind (midLoop name b)
    cases findAt s name (name.length + 1 - p) p with
    | none => rfl
    | some q => exact midLoop_app name a b (q + s.length)
theorem midLoop_le (name : List Nat) : ∀ (a : List (List RSet)) (p q : Nat), p ≤ name.length → midLoop name a p = some q → q ≤ name.length
  | [], p, q, hp, h => by cases h; exact hp
  | s :: a, p, q, hp, h => by
    have h' : (match findAt s name (name.length + 1 - p) p with | none => none | some q => midLoop name a (q + s.length)) = some q := h
    cases hf : findAt s name (name.length + 1 - p) p with
    | none => rw [hf] at h'; cases h'
    | some r => rw [hf] at h'; exact midLoop_le name a _ q (lies_len (findAt_lies hf)) h'
theorem slc_inner {α : Type} (l : List α) : slc l (some ((1 : Nat) : Int)) (some (-1)) = (l.drop 1).dropLast := by
  unfold slc clip
  simp only [show ¬ (((1 : Nat) : Int) < 0) by decide, if_false, show (-1 : Int) < 0 by decide, if_true]
  rw [List.dropLast_eq_take, List.length_drop]
  rcases Nat.eq_zero_or_pos l.length with h | h
  · have : l = [] := List.length_eq_zero_iff.mp h
    subst this; rfl
  · rw [show (max 0 (min ((1 : Nat) : Int) (l.length : Int))).toNat = 1 by grind, show (max 0 (min (-1 + (l.length : Int)) (l.length : Int))).toNat = l.length - 1 by grind]
theorem seqIndex_last {n : Nat} (h : 0 < n) : seqIndex? (-1) n = some (n - 1) := by
  unfold seqIndex?
  simp only [show (-1 : Int) < 0 by decide, if_true]
  rw [if_pos (by simp; lia)]
  congr 1; lia

noncomputable abbrev psD (ps : List (List RSet)) : D := .list (ps.map setsD)
structure PsOk (ps : List (List RSet)) : Prop where
  len : ps.length ≤ 1000
  pos : 0 < ps.length
  grp : ∀ s ∈ ps, s.length ≤ 1000
  set : ∀ s ∈ ps, ∀ x ∈ s, x.length ≤ 1000
set_option maxHeartbeats 8000000 in
theorem spec_takes {ps : List (List RSet)} {name : List Nat} (hp : PsOk ps) (hn : name.length ≤ 100000) : Spec prog w (KK w) 2 186 [psD ps, ds name] (.bool (takes ps name)) := by
  have h0 : ps.getD 0 [] ∈ ps := List.mem_of_getElem? (getD_some [] hp.pos)
  have hL : ps.getD (ps.length - 1) [] ∈ ps := List.mem_of_getElem? (getD_some [] (by have := hp.pos; exact (lin [_, _] (.a (.v 0) (.n 1)) (.v 1) (.e 1 0 (.a (.v 0) (.n 1)) (.v 1) .z) rfl (Nat.sub_add_cancel (lin [_] (.n 1) (.v 0) (.s 1 (.a (.n 0) (.n 1)) (.v 0) .z) rfl this)))))
  have hlen : (ps.map setsD).length = ps.length := List.length_map ..
  refine spec_intro (names := ["pieces", "name"]) (by rfl) (by kernel_rfl) (by rfl) ?_ (by decide) (by rfl) (by decide +kernel) (by rfl) (by rfl) (by rfl) (by rfl) (by rfl) (by decide +kernel) ?_
  · exact vs2 fun a b => rfl
  · have call : ∀ {S : State} {sx : Sx} {fn e1 e2 e3 : Expr} {pos : Pos} {s : List RSet} {p : Nat}, s ∈ ps → Evals prog w (KK w) 1 sx S fn (.d (.raw (.ref 179))) → Evals prog w (KK w) 1 sx S e1 (.d (setsD s)) → Evals prog w (KK w) 1 sx S e2 (.d (ds name)) → Evals prog w (KK w) 1 sx S e3 (.d (dz p)) → (∀ env, starEach [e1, e2, e3] env = (false, eval e1 env) :: starEach [e2, e3] env) → (∀ env, starEach [e2, e3] env = (false, eval e2 env) :: starEach [e3] env) → (∀ env, starEach [e3] env = (false, eval e3 env) :: starEach [] env) → (∀ env, eval (.Call fn [e1, e2, e3] [] pos) env = (do callWith pos (← eval fn env) [] (backTo pos (starEach [e1, e2, e3] env)) (backToKw pos (keywordEach [] env)))) → Evals prog w (KK w) 1 sx S (.Call fn [e1, e2, e3] [] pos) (.d (.bool (lies s name p))) := fun {S sx fn e1 e2 e3 pos s p} hs hf h1 h2 h3 s1 s2 s3 he =>
      ev_call (ds := [setsD s, ds name, dz p]) hf (evl_cons h1 (evl_cons h2 (evl_cons h3 evl_nil s3) s2) s1) (by rfl) (spec_lies (hp.grp s hs) (hp.set s hs) hn) (by exact (Nat.le_of_ble_eq_true rfl)) (KKtab w) ⟨_, _, rfl, s1⟩ he
    have idx0 : ∀ {S : State} {sx : Sx} {e : Expr} {k : Nat} {p p2 : Pos}, Evals prog w (KK w) 1 sx S e (.d (psD ps)) → (∀ x i u, subscripted (.Constant (.int 0) k p) false (.ref x) (.int i u) = operate [.ref x, .int i u] (getItem (.ref x) (.int i u))) → Evals prog w (KK w) 1 sx S (.Subscript e (.Constant (.int 0) k p) p2) (.d (setsD (ps.getD 0 []))) := fun {S sx e k p p2} he hs =>
      lidx he (nt 0) (by rw [hlen]; exact hp.pos) (by rw [List.getElem?_map, getD_some [] hp.pos]; rfl) (by rw [hlen]; have := hp.len; omega) hs
    have idxL : ∀ {S : State} {sx : Sx} {e : Expr} {k : Nat} {p p2 p3 : Pos}, Evals prog w (KK w) 1 sx S e (.d (psD ps)) → (∀ x i u, subscripted (.UnaryOp .USub (.Constant (.int 1) k p) p2) false (.ref x) (.int i u) = operate [.ref x, .int i u] (getItem (.ref x) (.int i u))) → Evals prog w (KK w) 1 sx S (.Subscript e (.UnaryOp .USub (.Constant (.int 1) k p) p2) p3) (.d (setsD (ps.getD (ps.length - 1) []))) := fun {S sx e k p p2 p3} he hs =>
      ev_sub he ev_neg (sub_list (seqIndex_last (by rw [hlen]; exact hp.pos)) (by rw [hlen, List.getElem?_map, getD_some [] (by have := hp.pos; exact (lin [_, _] (.a (.v 0) (.n 1)) (.v 1) (.e 1 0 (.a (.v 0) (.n 1)) (.v 1) .z) rfl (Nat.sub_add_cancel (lin [_] (.n 1) (.v 0) (.s 1 (.a (.n 0) (.n 1)) (.v 0) .z) rfl this))))]; rfl) (seg_len (by rw [hlen]; have := hp.len; omega)) hs)
    have glen : ∀ {S : State} {sx : Sx} {fn e : Expr} {pos : Pos} {s : List RSet}, s ∈ ps → Evals prog w (KK w) 1 sx S fn (.d (.raw (.builtin "len"))) → Evals prog w (KK w) 1 sx S e (.d (setsD s)) → (∀ env, starEach [e] env = (false, eval e env) :: starEach [] env) → (∀ env, eval (.Call fn [e] [] pos) env = (do callWith pos (← eval fn env) [] (backTo pos (starEach [e] env)) (backToKw pos (keywordEach [] env)))) → Evals prog w (KK w) 1 sx S (.Call fn [e] [] pos) (.d (dz s.length)) := fun {S sx fn e pos s} hs hf h s1 he => by
      have e1 : s.length = (s.map setD).length := by simp
      rw [e1]
      exact llen hf h (by rw [List.length_map]; have := hp.grp s hs; omega) s1 (by intro _; rfl) he
    refine runs_cons (run_if (b := !lies (ps.getD 0 []) name 0) (tests_not (tests_of (call h0 gv (idx0 lv (by intro _ _ _; with_unfolding_all rfl)) lv (nt 0) (by intro _; rfl) (by intro _; rfl) (by intro _; rfl) (by intro _; rfl)) truthy_bool')) (fun h => ?_) fun h => runs_nil ?_)
    · have : takes ps name = false := by unfold takes; rw [h]; rfl
      rw [this]
      exact runs_cons (run_ret ev_bool rfl)
    have hl0 : lies (ps.getD 0 []) name 0 = true := by simpa using h
    refine runs_cons (run_assign (v := .d (dz (ps.getD 0 []).length)) (glen h0 bv (idx0 lv (by intro _ _ _; with_unfolding_all rfl)) (by intro _; rfl) (by intro _; rfl)) (by rfl) ?_)
    refine runs_cons (run_if (b := ps.length == 1) (neq ?_ (nt 1)) (fun h1 => ?_) fun h1 => runs_nil ?_)
    · have e1 : ps.length = (ps.map setsD).length := by simp
      rw [e1]
      exact llen bv lv (by rw [hlen]; have := hp.len; omega)
    · have : takes ps name = ((ps.getD 0 []).length == name.length) := by unfold takes; rw [h, h1]; rfl
      rw [this, ← int_eq_nat]
      exact runs_cons (run_ret (ev_cmp lv (slen bv lv hn) op_eq_int) rfl)
    have hmem : ∀ s ∈ (ps.drop 1).dropLast, s ∈ ps := fun s hs => List.mem_of_mem_drop (List.dropLast_subset _ hs)
    have hmlen : ((ps.drop 1).dropLast).length ≤ 1000 := by rw [List.length_dropLast, List.length_drop]; have := hp.len; exact (lin [_, _, _] (.v 0) (.n 1000) (.s 1 (.v 1) (.n 1000) (.s 1 (.v 0) (.v 2) (.s 1 (.v 2) (.v 1) .z))) rfl this (Nat.sub_le _ _) (Nat.sub_le _ _))
    have htk : takes ps name = (match midLoop name ((ps.drop 1).dropLast) (ps.getD 0 []).length with
      | none => false
      | some p => decide (p + (ps.getD (ps.length - 1) []).length ≤ name.length) && lies (ps.getD (ps.length - 1) []) name (name.length - (ps.getD (ps.length - 1) []).length)) := by
      unfold takes; rw [h, h1]; rfl
    rw [htk]
    have hsl : slc (ps.map setsD) (some (1 : Int)) (some (-1)) = ((ps.drop 1).dropLast).map setsD := by
      rw [slc_map]; exact congrArg (List.map setsD) (slc_inner ps)
    have hp0 : (ps.getD 0 []).length ≤ name.length := by have := lies_len hl0; exact (lin [_, _] (.v 0) (.v 1) (.s 1 (.a (.n 0) (.v 0)) (.v 1) .z) rfl this)
    generalize (ps.getD 0 []).length = p0 at hp0 ⊢
    generalize hmids : (ps.drop 1).dropLast = mids at hmem hmlen hsl ⊢
    refine runs_cons (run_forH mids setsD (fun d => [("sets", d)]) (fun i => ⟨[("place", .d (dz ((midLoop name (mids.take i) p0).getD 0))), ("pieces", .d (psD ps)), ("name", .d (ds name))], []⟩) (fun i => ∃ p, midLoop name (mids.take i) p0 = some p) (src_of (di := .list (mids.map setsD)) ?_ (iters_list (seg_len (by simp; omega)))) (fun s hs => binds_name (by rfl)) (has rfl ⟨rfl, rfl, rfl, trivial⟩) ⟨p0, rfl⟩ (fun i s hi hP => ?_) fun hP => ?_)
    · rw [← hsl]; exact ev_slice_list lv (.some ev_int) (.some ev_neg) (seg_len (by rw [hlen]; have := hp.len; omega))
    · have hs := hmem s (List.mem_of_getElem? hi)
      obtain ⟨p, hpi⟩ := hP
      have hpn : p ≤ name.length := midLoop_le name _ _ _ hp0 hpi
      have hnext : midLoop name (mids.take (i + 1)) p0 = (match findAt s name (name.length + 1 - p) p with | none => none | some q => some (q + s.length)) := by
        rw [List.take_add_one, hi, midLoop_app, hpi]; rfl
      rw [hnext, hpi]
      refine runs_cons (run1_mono (Q := fun f S' => match f with
        | .next => ∃ q, findAt s name (name.length + 1 - p) p = some q ∧ Has S' ⟨[("place", .d (dz q)), ("sets", .d (setsD s)), ("pieces", .d (psD ps)), ("name", .d (ds name))], []⟩
        | .ret d => d = .bool false ∧ findAt s name (name.length + 1 - p) p = none
        | _ => False) (run_whileH (m := fun a => a.1) (C := fun a : Nat × Nat => ⟨[("place", .d (dz a.2)), ("sets", .d (setsD s)), ("pieces", .d (psD ps)), ("name", .d (ds name))], []⟩) (P := fun a => findAt s name a.1 a.2 = findAt s name (name.length + 1 - p) p ∧ a.2 + a.1 = name.length + 1 ∧ a.2 ≤ name.length) (a₀ := (name.length + 1 - p, p)) (has rfl ⟨rfl, rfl, rfl, rfl, trivial⟩) ⟨rfl, by simp; exact (Nat.le_antisymm (lin [_, _, _] (.a (.v 0) (.v 1)) (.a (.v 2) (.n 1)) (.e 1 0 (.a (.v 1) (.v 0)) (.a (.v 2) (.n 1)) .z) rfl (Nat.sub_add_cancel (lin [_, _] (.v 0) (.a (.v 1) (.n 1)) (.s 1 (.v 0) (.v 1) .z) rfl hpn))) (lin [_, _, _] (.a (.v 0) (.n 1)) (.a (.v 1) (.v 2)) (.s 1 (.a (.v 0) (.n 1)) (.a (.v 2) (.v 1)) .z) rfl (subx _ _))), hpn⟩ (t := fun a => !lies s name a.2) (fun a hP => ?_) (fun a hP ht => ?_) (fun a hP ht => ?_)) (fun f S' q => ?_))
      · exact tests_not (tests_of (call hs gv lv lv lv (by intro _; rfl) (by intro _; rfl) (by intro _; rfl) (by intro _; rfl)) truthy_bool')
      · obtain ⟨f, k⟩ := a
        obtain ⟨hf, hk, hkn⟩ := hP
        have ht' : lies s name k = false := by simpa using ht
        simp only at hf hk hkn
        cases f with
        | zero => lia
        | succ f =>
          rw [findAt_succ, ht'] at hf
          simp only [Bool.false_eq_true, if_false] at hf
          refine runs_cons (run_assign (v := .d (dz (k + 1))) (nadd lv (nt 1)) (by rfl) ?_)
          refine runs_cons (run_if (b := decide (name.length < k + 1)) (ngt lv (slen bv lv hn)) (fun q => ?_) fun q => ?_)
          · have q' : name.length < k + 1 := by simpa using q
            rw [if_pos q'] at hf
            exact runs_cons (run_ret ev_bool ⟨rfl, hf.symm⟩)
          · have q' : ¬ name.length < k + 1 := by simpa using q
            rw [if_neg q'] at hf
            exact runs_nil (runs_nil ⟨(f, k + 1), Nat.lt_succ_self f, ⟨hf, by simp only; exact (Nat.le_antisymm (lin [_, _, _] (.a (.a (.v 0) (.n 1)) (.v 1)) (.a (.v 2) (.n 1)) (.e 1 0 (.a (.v 0) (.a (.v 1) (.n 1))) (.a (.v 2) (.n 1)) .z) rfl hk) (lin [_, _, _] (.a (.v 0) (.n 1)) (.a (.a (.v 1) (.n 1)) (.v 2)) (.e 0 1 (.a (.v 1) (.a (.v 2) (.n 1))) (.a (.v 0) (.n 1)) .z) rfl hk)), by simp only; exact (lin [_, _] (.a (.v 0) (.n 1)) (.v 1) (.s 1 (.a (.v 0) (.n 1)) (.v 1) .z) rfl (nlt' q'))⟩, has rfl ⟨rfl, rfl, rfl, rfl, trivial⟩⟩)
      · obtain ⟨f, k⟩ := a
        obtain ⟨hf, hk, hkn⟩ := hP
        have ht' : lies s name k = true := by simpa using ht
        simp only at hf hk hkn
        cases f with
        | zero => lia
        | succ f =>
          rw [findAt_succ, ht'] at hf
          exact runs_nil ⟨k, hf.symm, .refl _⟩
      · cases f with
        | next =>
          obtain ⟨q1, hq1, hH⟩ := q
          refine hH.runs ?_
          rw [hq1]
          refine runs_cons (run_assign (v := .d (dz (q1 + s.length))) (nadd lv (glen hs bv lv (by intro _; rfl) (by intro _; rfl))) (by rfl) (runs_nil ⟨⟨_, rfl⟩, has rfl ⟨rfl, rfl, rfl, trivial⟩⟩))
        | brk => exact q.elim
        | cont => exact q.elim
        | ret d =>
          obtain ⟨rfl, hq⟩ := q
          have hall : midLoop name mids p0 = none := by
            rw [← List.take_append_drop (i + 1) mids, midLoop_app, hnext, hq]; rfl
          show Fl.ret (D.bool false) = Fl.ret (D.bool (match midLoop name mids p0 with
            | none => false
            | some p => decide (p + (ps.getD (ps.length - 1) []).length ≤ name.length) && lies (ps.getD (ps.length - 1) []) name (name.length - (ps.getD (ps.length - 1) []).length)))
          rw [hall]
    · obtain ⟨p, hpi⟩ := hP
      rw [List.take_length] at hpi ⊢
      rw [hpi]
      refine runs_nil ?_
      refine runs_cons (run_assign (v := .d (.int ((name.length : Int) - ((ps.getD (ps.length - 1) []).length : Int)))) (ev_binop (slen bv lv hn) (glen hL bv (idxL lv (by intro _ _ _; with_unfolding_all rfl)) (by intro _; rfl) (by intro _; rfl)) op_sub_int) (by rfl) ?_)
      refine runs_cons (run_ret (d := .bool (decide (p + (ps.getD (ps.length - 1) []).length ≤ name.length) && lies (ps.getD (ps.length - 1) []) name (name.length - (ps.getD (ps.length - 1) []).length))) (ev_and (a := decide (p + (ps.getD (ps.length - 1) []).length ≤ name.length)) ?_ (fun q => ?_) (fun q => by rw [q]; rfl)) rfl)
      · have e : decide (p + (ps.getD (ps.length - 1) []).length ≤ name.length) = decide ((p : Int) ≤ (name.length : Int) - ((ps.getD (ps.length - 1) []).length : Int)) := by
          rw [Bool.eq_iff_iff]; simp only [decide_eq_true_eq]; lia
        rw [e]
        exact ev_cmp lv lv op_le_int
      · have q' : p + (ps.getD (ps.length - 1) []).length ≤ name.length := by simpa using q
        have e : (name.length : Int) - ((ps.getD (ps.length - 1) []).length : Int) = ((name.length - (ps.getD (ps.length - 1) []).length : Nat) : Int) := by lia
        rw [q, Bool.true_and, e]
        exact call hL gv (idxL lv (by intro _ _ _; with_unfolding_all rfl)) lv lv (by intro _; rfl) (by intro _; rfl) (by intro _; rfl) (by intro _; rfl)
end
end Mine
end

-- the text M26
section
open PySem PySem.Calls PySem.W PyProof.Rows
set_option maxRecDepth 100000
namespace Mine
section
variable {prog : Program} {w : World} {K : Frag} {n : Nat} {sx : Sx} {S : State}
theorem ev_fstr3 {e1 e2 e3 : Expr} {pos : Pos} {a b c : List Nat} (h1 : Evals prog w K n sx S e1 (.d (ds a))) (h2 : Evals prog w K n sx S e2 (.d (ds b))) (h3 : Evals prog w K n sx S e3 (.d (ds c))) (hl : a.length + b.length + c.length ≤ 100000) : Evals prog w K n sx S (.JoinedStr [e1, e2, e3] pos) (.d (ds (a ++ b ++ c))) := by
  intro A cx G ad s R C hsc st
  have e0 : Str.empty = sl [] := rfl
  refine wpAny_JoinedStr ?_
  refine Joins_cons (wpg (h1 A cx G ad s R C hsc st) fun x s₁ G₁ g₁ e₁ => ?_)
  (first | obtain rfl := Is.inv e₁ | obtain ⟨_, rfl⟩ := Is.inv e₁)
  have st₁ := st.step C g₁
  refine ⟨_, _, rfl, by rw [e0, sl_app, sl_len]; exact seg_len (by simp; exact (lin [_, _, _] (.v 0) (.n 100000) (.s 1 (.a (.a (.v 0) (.v 1)) (.v 2)) (.n 100000) .z) rfl hl)), ?_⟩
  refine Joins_cons (wpg (h2 A cx G₁ ad s₁ R C hsc st₁) fun x s₂ G₂ g₂ e₂ => ?_)
  (first | obtain rfl := Is.inv e₂ | obtain ⟨_, rfl⟩ := Is.inv e₂)
  have st₂ := st₁.step C g₂
  refine ⟨_, _, rfl, by rw [e0, sl_app, sl_app, sl_len]; exact seg_len (by simp; exact (lin [_, _, _] (.a (.v 0) (.v 1)) (.n 100000) (.s 1 (.a (.a (.v 0) (.v 1)) (.v 2)) (.n 100000) .z) rfl hl)), ?_⟩
  refine Joins_cons (wpg (h3 A cx G₂ ad s₂ R C hsc st₂) fun x s₃ G₃ g₃ e₃ => ?_)
  (first | obtain rfl := Is.inv e₃ | obtain ⟨_, rfl⟩ := Is.inv e₃)
  refine ⟨_, _, rfl, by rw [e0, sl_app, sl_app, sl_app, sl_len]; exact seg_len (by simp; exact (lin [_, _, _] (.a (.v 0) (.a (.v 1) (.v 2))) (.n 100000) (.s 1 (.a (.a (.v 0) (.v 1)) (.v 2)) (.n 100000) .z) rfl hl)), Joins_nil ?_⟩
  rw [e0, sl_app, sl_app, sl_app]
  refine ⟨by rw [sl_len]; exact seg_len (by simp; exact (lin [_, _, _] (.a (.v 0) (.a (.v 1) (.v 2))) (.n 100000) (.s 1 (.a (.a (.v 0) (.v 1)) (.v 2)) (.n 100000) .z) rfl hl)), G₃, ((g₁.trans g₂).trans g₃).trans ((Same.toks s₃ _).grow g₃.sub), ?_⟩
  exact Is.str _ _
theorem ev_fmt {value : Expr} {pos : Pos} {l : List Nat} (h1 : Evals prog w K n sx S value (.d (ds l))) (hl : l.length ≤ 100000) : Evals prog w K n sx S (.FormattedValue value (-1) none pos) (.d (ds l)) := by
  intro A c G ad s R C hsc st
  refine wpAny_FormattedValue_plain (wpg (h1 A c G ad s R C hsc st) fun x s₁ G₁ g₁ e₁ => ?_)
  (first | obtain rfl := Is.inv e₁ | obtain ⟨_, rfl⟩ := Is.inv e₁)
  exact SB.field_str (fun t' k => ⟨G₁, g₁.trans ((Same.toks s₁ _).grow g₁.sub), .str _ _⟩) (by rw [sl_len]; exact seg_len hl)

/-! an item of a mutable list is turned: `xs[-1] += e` -/
theorem setItem_last {A : Around} {E : Value → Shared → Prop} {s : Shared} {l : Addr} {items : Array Value} {t : Tok} {v : Value} {Q : Unit → Shared → Prop} (hl : s.heap.PlainList l items) (hn : 0 < items.size)
    (hQ : ∀ h', h'.PlainList l (items.setIfInBounds (items.size - 1) v) → Heap.SameBut l s.heap h' → Q () { s with heap := h' }) :
    wpAny (model prog w) A (setItem (.ref l) (.int (-1) t) v) Q E s := by
  have hT := hl.isList.typeIs (s := s)
  obtain ⟨n, ho⟩ := hl
  unfold setItem
  refine wpAny_holding ?_
  refine wpAny_bind (wpAny_sequenceKey hT (by decide) ?_)
  refine wpAny_bind (wpAny_callSpecial?_slot (name := Str.ofString "__setitem__") hT slot_list_setitem
    (wpAny_call_entry slot_list_setitem hT entry_list_setitem ?_ (args_list_setitem _ _ _)))
  show wpAny _ _ (Builtin.List.listSubscript? (.int (-1) t) >>= _) _ _ s
  refine wpAny_bind (wpAny_listSubscript_int (fitsIndex_neg (by decide) (by decide)) ?_)
  have hidx : seqIndex? (-1) items.size = some (items.size - 1) := seqIndex_last hn
  show wpAny _ _ ((Builtin.List.listItems (.ref l) >>= fun xs => pure ((seqIndex? (-1) xs.size).bind fun i => xs[i]?.map (i, ·))) >>= _) _ _ s
  refine wpAny_bind (wpAny_bind ?_)
  show wpAny _ _ (seqItems? (.ref l) >>= _) _ _ s
  refine wpAny_bind (wpAny_seqItems ho rfl (wpAny_pure (wpAny_pure ?_)))
  have hlt : items.size - 1 < items.size := by exact (lin [_, _] (.a (.v 0) (.n 1)) (.v 1) (.e 1 0 (.a (.v 0) (.n 1)) (.v 1) .z) rfl (Nat.sub_add_cancel (lin [_] (.n 1) (.v 0) (.s 1 (.a (.n 0) (.n 1)) (.v 0) .z) rfl hn)))
  rw [hidx]
  simp only [Option.bind_some, Array.getElem?_eq_getElem hlt, Option.map_some]
  show wpAny _ _ (setSeqItemAt l (items.size - 1) v >>= _) _ _ s
  refine wpAny_bind (wpAny_setSeqItemAt ho rfl ?_)
  have hfin : (s.heap.update l (Obj.mapSeq (·.setIfInBounds (items.size - 1) v))).PlainList l (items.setIfInBounds (items.size - 1) v) := by
    refine ⟨n, ?_⟩
    rw [Heap.get?_update_self _ ho (by simp [Obj.mapSeq]; rfl)]
    simp [Obj.mapSeq]
  first
    | exact wpAny_bind (wpAny_pure (wpAny_pure ⟨.none, rfl, wpAny_pure (hQ _ hfin (Heap.SameBut.update ..))⟩))
    | exact wpAny_pure ⟨.none, rfl, wpAny_pure (hQ _ hfin (Heap.SameBut.update ..))⟩

theorem isVL_set {G : PH} {ad : List Addr} {l : List V} {vs : List Value} {v : V} {z : Value} (h : IsVL G ad l vs) (hv : IsV G ad v z) : ∀ (i : Nat), IsVL G ad (l.set i v) (vs.set i z) := by
  induction h with
  | nil => intro i; exact .nil
  | cons h1 h2 ih =>
    intro i
    cases i with
    | zero => exact .cons hv h2
    | succ i => exact .cons h1 (ih i)
theorem run_augLast {o value : Expr} {q : Nat} {p p2 spos pos : Pos} {k : Nat} {l : List V} {x y : List Nat} {Q : Fl → State → Prop} (ho : Evals prog w K n sx S o (.mu k)) (hv : Evals prog w K n sx S value (.d (ds y))) (hm : S.muts[k]? = some (.list l)) (hl : l[l.length - 1]? = some (.d (ds x))) (hb : l.length ≤ 100000) (hxy : x.length + y.length ≤ 100000) (h : Q .next (S.upd k (.list (l.set (l.length - 1) (.d (ds (x ++ y))))))) :
    Run1 prog w K n sx S (.AugAssign (.Subscript o (.UnaryOp .USub (.Constant (.int 1) q p) p2) spos) .Add value pos) Q := by
  intro A c G ad s R C hsc st
  have hpos : 0 < l.length := by
    rcases Nat.eq_zero_or_pos l.length with e | e
    · rw [List.length_eq_zero_iff.mp e] at hl; cases hl
    · exact e
  show wpAny _ A (do
    standAt pos
    let ov ← eval o c.env
    let iv ← holding [ov] (eval (.UnaryOp .USub (.Constant (.int 1) q p) p2) c.env)
    let new ← holding [ov, iv] do
      standAt spos
      let old ← getItem ov iv
      let v ← holding [old] (eval value c.env)
      standAt pos
      operate [old, v] (inplaceOp .Add old v)
    standAt spos
    holding [new, ov, iv] (setItem ov iv new)
    release [new, ov, iv] []
    pure Flow.next) _ _ s
  refine wpAny_bind (wpAny_standAt (wpAny_bind (wpg (ho A c G ad s R C hsc st) fun ov s₁ G₁ g₁ e₁ => ?_)))
  have st₁ := st.step C g₁
  refine wpAny_bind (wpAny_holding (wpg (ev_neg (i := 1) (k := q) (p := p) (pos := p2) A c G₁ ad s₁ R C hsc st₁) fun iv s₂ G₂ g₂ e₂ => ?_))
  (first | obtain rfl := Is.inv e₂ | obtain ⟨_, rfl⟩ := Is.inv e₂)
  have st₂ := st₁.step C g₂
  obtain ⟨a, ea, rfl⟩ := e₁
  obtain ⟨a', vs, ea', hp, hvs⟩ := st₂.mt k _ hm
  rw [ea] at ea'; cases ea'
  have hlen : vs.size = l.length := by have := hvs.length; simpa using this
  obtain ⟨z, hz, hdz⟩ := hvs.get hl
  (first | obtain rfl := Is.inv hdz | obtain ⟨_, rfl⟩ := Is.inv hdz)
  refine wpAny_bind (wpAny_holding (wpAny_bind (wpAny_standAt (wpAny_bind ?_))))
  have e1 : (-1 + (vs.size : Int)).toNat = l.length - 1 := by lia
  refine wpAny_getItem_list_neg hp.isList (by decide) (by lia) (by decide) (by rw [e1]; simpa using hz) ?_
  refine wpAny_bind (wpAny_holding (wpg (hv A c G₂ ad s₂ R C hsc st₂) fun yv s₃ G₃ g₃ e₃ => ?_))
  (first | obtain rfl := Is.inv e₃ | obtain ⟨_, rfl⟩ := Is.inv e₃)
  have st₃ := st₂.step C g₃
  refine wpAny_bind (wpAny_standAt (wpAny_operate' (SB.iadd (fun t' tk => ?_) (by rw [sl_len, sl_len, sizeLine_eq]; omega))))
  rw [sl_app]
  have g₄ : Grow [tabA] G₃ s₃ G₃ { s₃ with toks := tk } := (Same.toks s₃ tk).grow st₃.sub
  have st₄ := st₃.step C g₄
  refine wpAny_bind (wpAny_standAt (wpAny_bind (wpAny_holding ?_)))
  obtain ⟨a', vs₄, ea', hp₄, hvs₄⟩ := st₄.mt k _ hm
  rw [ea] at ea'; cases ea'
  have hlen₄ : vs₄.size = l.length := by have := hvs₄.length; simpa using this
  refine setItem_last hp₄ (by exact (lin [_, _] (.a (.n 0) (.n 1)) (.v 0) (.s 1 (.a (.n 0) (.n 1)) (.v 1) (.e 0 1 (.v 0) (.v 1) .z)) rfl hpos hlen₄)) fun h' hl' hs => ?_
  refine wpAny_bind (wpAny_release' (wpAny_pure ?_))
  have st₅ := st₄.turn C (k := k) (a := a) (l := l) (l' := l.set (l.length - 1) (.d (ds (x ++ y)))) (h' := h') (t := tk) hm ea hl' hs (by
    rw [Array.toList_setIfInBounds, hlen₄]
    exact isVL_set (v := .d (ds (x ++ y))) hvs₄ (show IsV G₃ ad (.d (ds (x ++ y))) _ from Is.str _ _) _)
  exact ⟨G₃, ad, _, st₅, (((g₁.trans g₂).trans g₃).trans g₄).step.trans (turn_step hm ea hs), h⟩
end
end Mine
end

-- the text M27
section
open PySem PySem.Calls PySem.W PyProof.Rows
set_option maxRecDepth 100000
namespace Mine

noncomputable def repl (c : Nat) (z l : List Nat) : List Nat := l.flatMap fun x => if x == c then z else [x]
theorem repl_append (c : Nat) (z a b : List Nat) : repl c z (a ++ b) = repl c z a ++ repl c z b := List.flatMap_append
theorem repl_free (c : Nat) (z : List Nat) : ∀ l : List Nat, c ∉ l → repl c z l = l
  | [], _ => rfl
  | a :: l, h => by
    have h1 : a ≠ c := fun q => h (by rw [q]; exact List.mem_cons_self)
    show (if a == c then z else [a]) ++ repl c z l = _
    rw [beq_eq_false_iff_ne.mpr h1, repl_free c z l fun q => h (List.mem_cons_of_mem _ q)]
    rfl
theorem repl_join (c : Nat) (z : List Nat) : ∀ parts : List Str, (∀ p ∈ parts, c ∉ p.cps.toList) → repl c z (Str.join ⟨#[c]⟩ parts).cps.toList = (Str.join (sl z) parts).cps.toList
  | [], _ => rfl
  | [p], h => repl_free c z _ (h p List.mem_cons_self)
  | p :: q :: r, h => by
    have ih := repl_join c z (q :: r) fun x hx => h x (List.mem_cons_of_mem _ hx)
    have e1 : (Str.join ⟨#[c]⟩ (p :: q :: r)).cps.toList = p.cps.toList ++ [c] ++ (Str.join ⟨#[c]⟩ (q :: r)).cps.toList := by
      show (p ++ ⟨#[c]⟩ ++ Str.join ⟨#[c]⟩ (q :: r)).cps.toList = _
      simp [Str.cps_append]
    have e2 : (Str.join (sl z) (p :: q :: r)).cps.toList = p.cps.toList ++ z ++ (Str.join (sl z) (q :: r)).cps.toList := by
      show (p ++ sl z ++ Str.join (sl z) (q :: r)).cps.toList = _
      simp [Str.cps_append]
    rw [e1, e2, repl_append, repl_append, ih, repl_free c z _ (h p List.mem_cons_self)]
    congr 2
    show (if c == c then z else [c]) ++ [] = z
    simp
theorem txt_replace (c : Nat) (z l : List Nat) : Txt.replace (sl l) (sl [c]) (sl z) = sl (repl c z l) := by
  have h : (Txt.replace (sl l) (sl [c]) (sl z)).cps.toList = repl c z l := by
    rw [show (sl [c]) = (⟨#[c]⟩ : Str) from rfl, StrLaws.replace_one, ← repl_join c z _ (StrLaws.split_free (sl l) c), StrLaws.join_split]
  generalize Txt.replace (sl l) (sl [c]) (sl z) = r at h
  obtain ⟨⟨l'⟩⟩ := r
  have e : l' = repl c z l := h
  rw [e]

/-- an expression, where a token is already spent -/
noncomputable def EvalsT (prog : Program) (w : World) (K : Frag) (n : Nat) (sx : Sx) (S : State) (e : Expr) (v : V) : Prop :=
  ∀ (A : Around) (c : Cx) (G : PH) (ad : List Addr) (s : Shared), Room A n → CxOk K c → c.sx = sx → St c G ad S s → 1 ≤ s.toks →
    wpAny (model prog w) A (eval e c.env) (fun y s' => ∃ G', Grow [tabA] G s G' s' ∧ IsV G' ad v y) Nope s
section
variable {prog : Program} {w : World} {K : Frag} {n : Nat} {sx : Sx} {S : State}
theorem evT_of {e : Expr} {v : V} (h : Evals prog w K n sx S e v) : EvalsT prog w K n sx S e v := fun A c G ad s R C hsc st _ => h A c G ad s R C hsc st

theorem evT_replace {o : Expr} {y z : Str} {k1 k2 : Nat} {p1 p2 apos pos : Pos} {l zl : List Nat} {c : Nat} (ho : EvalsT prog w K n sx S o (.d (ds l))) (hy : y = sl [c]) (hz : z = sl zl) (hne : ([c] == zl) = false) (hl : l.length ≤ 100000) (hzl : zl.length ≤ 14)
    (hs : ∀ env, starEach [.Constant (.str y) k1 p1, .Constant (.str z) k2 p2] env = [(false, eval (.Constant (.str y) k1 p1) env), (false, eval (.Constant (.str z) k2 p2) env)] := by intro _; rfl)
    (hbase : ∀ env, attributeBase o "replace" env (eval o env) = eval o env := by intro _; rfl) (hline : (apos.endLine == pos.line) = true := by rfl) :
    EvalsT prog w K n sx S (.Call (.Attribute o "replace" apos) [.Constant (.str y) k1 p1, .Constant (.str z) k2 p2] [] pos) (.d (ds (repl c zl l))) := by
  intro A cx G ad s R C hsc st ht
  refine Call_method2 (hbase _) (hs _) hline (wpAny_with_toks ht (wpAny_mono (ho A cx G ad s R C hsc st ht) (fun ov s₁ ⟨G₁, g₁, e₁⟩ ht₁ => ?_) fun _ _ f => f.elim))
  (first | obtain rfl := Is.inv e₁ | obtain ⟨_, rfl⟩ := Is.inv e₁)
  refine ⟨"str", "str.replace", F.plainAttrs_str, F.slot_str_replace, F.type_str_replace, typeIs_str _ _ _, (fun _ e => nomatch e), ?_⟩
  refine Calls.callWith_builtin rfl (Calls.evalArgs_plain (Calls.spliced_cons (Constant_str ?_)))
  refine Calls.spliced_cons (Constant_str (Calls.spliced_nil ?_))
  subst hy hz
  show wpAny _ _ (call (.builtin "str.replace") [.str (sl l) _, .str (sl [c]) s₁.toks, .str (sl zl) (s₁.toks + 1)]) _ _ _
  refine SC.replaceW (Nat.one_le_iff_ne_zero.mp ht₁) (Nat.succ_ne_zero _) (Nat.ne_of_lt (Nat.lt_succ_self _)) (by rw [sl_beq]; exact hne) (by rw [sl_len]; omega) (by rw [sl_len]; exact hzl) fun t' k => ?_
  rw [txt_replace]
  exact ⟨G₁, g₁.trans ((Same.toks s₁ _).grow g₁.sub), .str _ _⟩

noncomputable def RunsT (prog : Program) (w : World) (K : Frag) (n : Nat) (sx : Sx) (S : State) (sts : List Stmt) (Q : Fl → State → Prop) : Prop :=
  ∀ (A : Around) (c : Cx) (G : PH) (ad : List Addr) (s : Shared), Room A n → CxOk K c → c.sx = sx → St c G ad S s → 1 ≤ s.toks →
    wpAny (model prog w) A (execs sts c.env) (Post c G ad S s Q) Nope s
theorem runsT_of {sts : List Stmt} {Q : Fl → State → Prop} (h : Runs prog w K n sx S sts Q) : RunsT prog w K n sx S sts Q := fun A c G ad s R C hsc st _ => h A c G ad s R C hsc st
theorem runsT_assign {x : Str} {pos' pos : Pos} {value : Expr} {v : V} {rest : List Stmt} {Q : Fl → State → Prop} (he : EvalsT prog w K n sx S value v) (hk : sx.scope.names.lookup x = some .local) (h : Runs prog w K n sx (S.set x v) rest Q)
    (hs : ∀ env, swapsWith value (some (.Name x pos')) pos.line env = pure false := by intro _; rfl) : RunsT prog w K n sx S (.Assign [.Name x pos'] value pos :: rest) Q := by
  intro A c G ad s R C hsc st ht
  have hsc' := hsc
  subst hsc
  refine wpAny_execs_cons (wpAny_mono (Q := fun f s' => f = .next ∧ ∃ G' ad', St c G' ad' (S.set x v) s' ∧ Step c G ad S s G' ad' (S.set x v) s') ?_ (fun f s' p => ?_) fun _ _ f => f)
  · refine wpAny_Assign_Name (wpg (he A c G ad s R C rfl st ht) fun z s₁ G₁ g₁ e₁ => ?_) (hs _)
    exact storeLocal C (st.step C g₁) e₁ hk fun h' t x y => ⟨rfl, G₁, ad, x, g₁.step.trans y⟩
  · obtain ⟨rfl, G', ad', st', t'⟩ := p
    exact wpAny_mono (h A c G' ad' s' R C rfl st') (fun _ _ p => p.step t') fun _ _ f => f
/-- an if whose test begins with a text -/
theorem run_if_notin {y : Str} {q : Nat} {cp pos ipos : Pos} {r : Expr} {body orelse : List Stmt} {a : Nat} {b : List Nat} {Q : Fl → State → Prop} (hy : y = sl [a]) (hr : Evals prog w K n sx S r (.d (ds b))) (h1 : a ∉ b → RunsT prog w K n sx S body Q) (h2 : a ∈ b → RunsT prog w K n sx S orelse Q)
    (hm : behindInMarks .NotIn r = false := by with_unfolding_all rfl) : Run1 prog w K n sx S (.If (.Compare (.Constant (.str y) q cp) [.NotIn] [r] pos) body orelse ipos) Q := by
  intro A c G ad s R C hsc st
  subst hy
  refine wpAny_If (wpAny_isTrue_Compare1 (Constant_str ?_) hm)
  have st₀ : St c G ad S { s with toks := s.toks + 1 } := st.same C (Same.toks s _)
  have t₀ : Step c G ad S s G ad S { s with toks := s.toks + 1 } := (Same.toks s _).step st.sub
  refine wpAny_with_toks (n := 1) (Nat.le_add_left 1 s.toks) (wpAny_mono (hr A c G ad _ R C hsc st₀) (fun x s₁ ⟨G₁, g₁, e₁⟩ ht => ?_) fun _ _ f => f.elim)
  (first | obtain rfl := Is.inv e₁ | obtain ⟨_, rfl⟩ := Is.inv e₁)
  have st₁ := st₀.step C g₁
  refine SB.notContains ?_
  refine wpAny_truthy_bool ?_
  rw [contains_one]
  have tt := t₀.trans g₁.step
  by_cases hab : a ∈ b
  · rw [decide_eq_true hab]
    exact wpAny_mono (h2 hab A c G₁ ad s₁ R C hsc st₁ ht) (fun _ _ p => p.step tt) fun _ _ f => f
  · rw [decide_eq_false hab]
    exact wpAny_mono (h1 hab A c G₁ ad s₁ R C hsc st₁ ht) (fun _ _ p => p.step tt) fun _ _ f => f
end
end Mine
end

-- the text M28
section
open PySem PySem.Calls PySem.W PyProof.Rows
set_option maxRecDepth 100000
namespace Mine
open PySem.Sre

noncomputable def pcode : Array Nat := #[14, 14, 4, 1, 1, 9, 0, 64, 0, 1342177280, 0, 0, 0, 0, 0, 17, 0, 13, 11, 9, 0, 64, 0, 1342177280, 0, 0, 0, 0, 0, 17, 1, 1]
noncomputable def isSp (c : Nat) : Bool := c == 38 || c == 124 || c == 126
theorem charset_sp (c : Nat) : (decide (c < 256) && (pcode.getD (5 + (1 + c / 32)) 0).testBit (c % 32)) = isSp c := by
  by_cases h : c < 256
  · have : ∀ c < 256, (decide (c < 256) && (pcode.getD (5 + (1 + c / 32)) 0).testBit (c % 32)) = isSp c := by decide +kernel
    exact this c h
  · rw [decide_eq_false h]
    unfold isSp
    have h1 : (c == 38) = false := by simp; omega
    have h2 : (c == 124) = false := by simp; omega
    have h3 : (c == 126) = false := by simp; omega
    rw [h1, h2, h3]; rfl
theorem charset_sp2 (c : Nat) : (decide (c < 256) && (pcode.getD (19 + (1 + c / 32)) 0).testBit (c % 32)) = isSp c := by
  by_cases h : c < 256
  · have : ∀ c < 256, (decide (c < 256) && (pcode.getD (19 + (1 + c / 32)) 0).testBit (c % 32)) = isSp c := by decide +kernel
    exact this c h
  · rw [decide_eq_false h]
    unfold isSp
    have h1 : (c == 38) = false := by simp; omega
    have h2 : (c == 124) = false := by simp; omega
    have h3 : (c == 126) = false := by simp; omega
    rw [h1, h2, h3]; rfl
theorem inSet_at (c i : Nat) (seen : Sre.Seen) (hi : i = 5 ∨ i = 19) : ∃ seen', Sre.inSet pcode c pcode.size i true seen = Except.ok (isSp c, seen') := by
  have hs : pcode.size = 32 := rfl
  rw [hs]
  rcases hi with rfl | rfl
  · show ∃ seen', (if (decide (c < 256) && (pcode.getD (5 + (1 + c / 32)) 0).testBit (c % 32)) = true then Except.ok (true, seen.add 9) else Except.ok (!true, (seen.add 9).add 0)) = Except.ok (isSp c, seen')
    rw [charset_sp]
    cases isSp c
    · exact ⟨_, rfl⟩
    · exact ⟨_, rfl⟩
  · show ∃ seen', (if (decide (c < 256) && (pcode.getD (19 + (1 + c / 32)) 0).testBit (c % 32)) = true then Except.ok (true, seen.add 9) else Sre.inSet pcode c 31 28 true (seen.add 9)) = Except.ok (isSp c, seen')
    rw [charset_sp2]
    cases isSp c
    · exact ⟨_, rfl⟩
    · exact ⟨_, rfl⟩
theorem admitted_spec (m : Sre.M) (hc : m.code = pcode) : ∀ (fuel s : Nat) (seen : Sre.Seen), m.lim + 1 - s ≤ fuel →
    (∃ seen', Sre.M.admitted m fuel s seen = .ok (none, seen') ∧ ∀ i, s ≤ i → i < m.lim → isSp (m.text.getD i 0) = false) ∨
    ∃ p seen', Sre.M.admitted m fuel s seen = .ok (some p, seen') ∧ s ≤ p ∧ p < m.lim ∧ isSp (m.text.getD p 0) = true ∧ ∀ i, s ≤ i → i < p → isSp (m.text.getD i 0) = false
  | 0, s, seen, h => .inl ⟨seen, rfl, fun i h1 h2 => by omega⟩
  | fuel + 1, s, seen, h => by
    unfold Sre.M.admitted
    by_cases hs : s ≥ m.lim
    · rw [if_pos hs]
      exact .inl ⟨seen, rfl, fun i h1 h2 => by grind⟩
    · rw [if_neg hs, hc]
      obtain ⟨seen', he⟩ := inSet_at (m.text.getD s 0) 5 seen (.inl rfl)
      rw [he]
      cases hq : isSp (m.text.getD s 0) with
      | true => exact .inr ⟨s, seen', rfl, Nat.le_refl _, by exact (lin [_, _] (.a (.v 0) (.n 1)) (.v 1) (.s 1 (.a (.v 0) (.n 1)) (.v 1) .z) rfl (nle hs)), hq, fun i h1 h2 => by grind⟩
      | false =>
        rcases admitted_spec m hc fuel (s + 1) seen' (by exact (lin [_, _, _, _, _] (.v 0) (.v 1) (.s 1 (.v 2) (.a (.v 1) (.n 1)) (.s 1 (.a (.v 3) (.n 1)) (.a (.v 2) (.v 4)) (.e 1 0 (.a (.v 0) (.a (.v 4) (.n 1))) (.a (.v 3) (.n 1)) .z))) rfl h (subx _ _) (Nat.sub_add_cancel (lin [_, _] (.a (.v 0) (.n 1)) (.a (.v 1) (.n 1)) (.s 1 (.a (.v 0) (.n 1)) (.v 1) .z) rfl (nle hs))))) with ⟨q, h1, h2⟩ | ⟨p, q, h1, h2, h3, h4, h5⟩
        · refine .inl ⟨q, h1, fun i hi1 hi2 => ?_⟩
          rcases Nat.eq_or_lt_of_le hi1 with e | e
          · subst e; exact hq
          · exact h2 i e hi2
        · refine .inr ⟨p, q, h1, by exact (lin [_, _] (.v 0) (.v 1) (.s 1 (.a (.v 0) (.n 1)) (.v 1) .z) rfl h2), h3, h4, fun i hi1 hi2 => ?_⟩
          rcases Nat.eq_or_lt_of_le hi1 with e | e
          · subst e; exact hq
          · exact h5 i e hi2
noncomputable def fr0 (p : Nat) : Sre.Frame := { wait := .nextStart, pc := 15, pos := p, outermost := true }
noncomputable def mach (text : Array Nat) (lim p pc pos handed : Nat) (marks : Array (Option Nat)) (lm li : Int) (frames : List Sre.Frame) (weight ls : Nat) (answer : Option Bool) (seen : Sre.Seen) (oc : Option Sre.Outcome) : Sre.M :=
  { code := pcode, text, lim, start := p, lastStart := ls, pc, pos, handed, marks, lastmark := lm, lastindex := li, frames, weight, answer, seen, outcome := oc }
theorem step1 (text : Array Nat) (lim p ls : Nat) (seen : Sre.Seen) : ∃ seen', (mach text lim p 15 p p #[none, none] (-1) (-1) [fr0 p] 1 ls none seen none).step = mach text lim p 17 p p #[some p, none] 0 (-1) [fr0 p] 1 ls none seen' none := ⟨_, by rfl⟩
theorem step2 (text : Array Nat) (lim p ls : Nat) (seen : Sre.Seen) (hp : p < lim) (hs : isSp (text.getD p 0) = true) : ∃ seen', (mach text lim p 17 p p #[some p, none] 0 (-1) [fr0 p] 1 ls none seen none).step = mach text lim p 29 (p + 1) p #[some p, none] 0 (-1) [fr0 p] 1 ls none seen' none := by
  obtain ⟨seen', he⟩ := inSet_at (text.getD p 0) 19 (seen.add 13) (.inr rfl)
  rw [hs] at he
  refine ⟨seen', ?_⟩
  show (if p ≥ lim then Sre.M.say _ false else match Sre.inSet pcode (text.getD p 0) pcode.size 19 true (seen.add 13) with
    | .error why => _
    | .ok (false, seen) => _
    | .ok (true, seen) => _) = _
  rw [if_neg (by exact (fun hq => (lif [_, _] (.s 1 (.a (.v 0) (.n 1)) (.v 1) (.s 1 (.v 1) (.v 0) .z)) rfl hp hq))), he]
  rfl
theorem step3 (text : Array Nat) (lim p ls : Nat) (seen : Sre.Seen) : ∃ seen', (mach text lim p 29 (p + 1) p #[some p, none] 0 (-1) [fr0 p] 1 ls none seen none).step = mach text lim p 31 (p + 1) p #[some p, some (p + 1)] 1 1 [fr0 p] 1 ls none seen' none := ⟨seen.add 17, by kernel_rfl⟩
theorem step4 (text : Array Nat) (lim p ls : Nat) (seen : Sre.Seen) : ∃ seen', (mach text lim p 31 (p + 1) p #[some p, some (p + 1)] 1 1 [fr0 p] 1 ls none seen none).step = mach text lim p 31 (p + 1) (p + 1) #[some p, some (p + 1)] 1 1 [fr0 p] 1 ls (some true) seen' none := ⟨_, by rfl⟩
theorem step5 (text : Array Nat) (lim p ls : Nat) (seen : Sre.Seen) : ∃ m', (mach text lim p 31 (p + 1) (p + 1) #[some p, some (p + 1)] 1 1 [fr0 p] 1 ls (some true) seen none).step = m' ∧ m'.step.outcome = some .matched ∧ m'.outcome = none ∧ m'.step.start = p ∧ m'.step.handed = p + 1 ∧ m'.step.marks = #[some p, some (p + 1)] ∧ m'.step.lastmark = 1 ∧ m'.step.lastindex = 1 := ⟨_, rfl, by rfl, by rfl, by rfl, by rfl, by rfl, by rfl, by rfl⟩

theorem runFor_done (m : Sre.M) (h : m.outcome.isSome = true) : ∀ n, m.runFor n = m
  | 0 => rfl
  | n + 1 => by
    show (if m.outcome.isSome then m else Sre.M.runFor n m.step) = m
    rw [if_pos h]
theorem runFor_step (m : Sre.M) (h : m.outcome = none) (n : Nat) : m.runFor (n + 1) = m.step.runFor n := by
  show (if m.outcome.isSome then m else Sre.M.runFor n m.step) = _
  rw [h]; rfl
/-- the six steps of a hit -/
theorem hit_runs (text : Array Nat) (lim p ls : Nat) (seen : Sre.Seen) (hp : p < lim) (hs : isSp (text.getD p 0) = true) :
    ((mach text lim p 15 p p #[none, none] (-1) (-1) [fr0 p] 1 ls none seen none).runFor 4).outcome = none ∧
    ∃ m', ((mach text lim p 15 p p #[none, none] (-1) (-1) [fr0 p] 1 ls none seen none).runFor 4).runFor 4 = m' ∧ m'.outcome = some .matched ∧ m'.start = p ∧ m'.handed = p + 1 ∧ m'.marks = #[some p, some (p + 1)] ∧ m'.lastmark = 1 ∧ m'.lastindex = 1 := by
  obtain ⟨s1, e1⟩ := step1 text lim p ls seen
  obtain ⟨s2, e2⟩ := step2 text lim p ls s1 hp hs
  obtain ⟨s3, e3⟩ := step3 text lim p ls s2
  obtain ⟨s4, e4⟩ := step4 text lim p ls s3
  obtain ⟨m5, e5, h1, h2, h3, h4, h5, h6, h7⟩ := step5 text lim p ls s4
  have r4 : (mach text lim p 15 p p #[none, none] (-1) (-1) [fr0 p] 1 ls none seen none).runFor 4 = mach text lim p 31 (p + 1) (p + 1) #[some p, some (p + 1)] 1 1 [fr0 p] 1 ls (some true) s4 none := by
    rw [runFor_step _ rfl, e1, runFor_step _ rfl, e2, runFor_step _ rfl, e3, runFor_step _ rfl, e4]; rfl
  rw [r4]
  refine ⟨rfl, m5.step, ?_, h1, h3, h4, h5, h6, h7⟩
  rw [runFor_step _ rfl, e5, runFor_step _ h2, runFor_done _ (by rw [h1]; rfl)]
end Mine
end

-- the text M29
section
open PySem PySem.Calls PySem.W PyProof.Rows
open Builtin Builtin.Re
set_option maxRecDepth 100000
namespace Mine
noncomputable def base (text : Array Nat) (start lim : Nat) (mu : Bool) (ls : Nat) : Sre.M := { code := pcode, text, lim, start, lastStart := ls, pc := 15, pos := start, handed := start, marks := #[none, none], mustAdvance := mu, seen := (({} : Sre.Seen).add 14) }
theorem forSearch_eq (text : Array Nat) (start lim : Nat) (mu : Bool) : Sre.forSearch pcode text 1 start lim mu = if (decide (start > lim) || decide (lim - start < 1)) = true then (base text start lim mu 0).say false else (base text start lim mu lim).attemptFrom start true := by
  kernel_rfl
theorem say_false {m : Sre.M} (h1 : m.frames = []) (h2 : m.outcome = none) : ((m.say false).runFor 4).outcome = some .failed := by
  have e : (m.say false).step.outcome = some .failed := by
    unfold Sre.M.step
    have h2' : (m.say false).outcome = none := h2
    have h1' : (m.say false).frames = [] := h1
    rw [h2', h1']
    rfl
  rw [runFor_step (m.say false) h2 3, runFor_done _ (by rw [e]; rfl), e]
theorem attempt_none {text : Array Nat} {start lim : Nat} {mu : Bool} (h : ∀ i, start ≤ i → i < lim → isSp (text.getD i 0) = false) : (((base text start lim mu lim).attemptFrom start true).runFor 4).outcome = some .failed := by
  rcases admitted_spec (base text start lim mu lim) rfl (lim + 1 - start) start (({} : Sre.Seen).add 14) (Nat.le_refl _) with ⟨seen', e, _⟩ | ⟨p, seen', e, h1, h2, h3, _⟩
  · have e2 : (base text start lim mu lim).attemptFrom start true = { base text start lim mu lim with seen := seen' }.say false := by
      unfold Sre.M.attemptFrom
      have hf : (!(base text start lim mu lim).hasFirstSet) = false := by rfl
      rw [hf]
      simp only [Bool.false_eq_true, if_false]
      show (match Sre.M.admitted (base text start lim mu lim) (lim + 1 - start) start (({} : Sre.Seen).add 14) with
        | .ok (some s, seen) => _
        | .ok (none, seen) => _
        | .error why => _) = _
      rw [e]
    rw [e2]
    exact say_false rfl rfl
  · have h3' : isSp (text.getD p 0) = true := h3
    rw [h p h1 h2] at h3'; cases h3'
theorem attempt_some {text : Array Nat} {start lim p : Nat} {mu : Bool} (h1 : start ≤ p) (h2 : p < lim) (h3 : isSp (text.getD p 0) = true) (h4 : ∀ i, start ≤ i → i < p → isSp (text.getD i 0) = false) :
    ∃ seen, (base text start lim mu lim).attemptFrom start true = mach text lim p 15 p p #[none, none] (-1) (-1) [fr0 p] 1 lim none seen none := by
  rcases admitted_spec (base text start lim mu lim) rfl (lim + 1 - start) start (({} : Sre.Seen).add 14) (Nat.le_refl _) with ⟨seen', e, hn⟩ | ⟨p', seen', e, q1, q2, q3, q4⟩
  · have := hn p h1 h2; rw [show (base text start lim mu lim).text = text from rfl, h3] at this; cases this
  · have hp : p' = p := by
      rcases Nat.lt_trichotomy p' p with q | q | q
      · have := h4 p' q1 q; rw [show (base text start lim mu lim).text = text from rfl, this] at q3; cases q3
      · exact q
      · have := q4 p h1 q; rw [show (base text start lim mu lim).text = text from rfl, h3] at this; cases this
    subst hp
    refine ⟨seen', ?_⟩
    unfold Sre.M.attemptFrom
    have hf : (!(base text start lim mu lim).hasFirstSet) = false := by rfl
    rw [hf]
    simp only [Bool.false_eq_true, if_false]
    show (match Sre.M.admitted (base text start lim mu lim) (lim + 1 - start) start (({} : Sre.Seen).add 14) with
      | .ok (some s, seen) => _
      | .ok (none, seen) => _
      | .error why => _) = _
    rw [e]
    rfl
section
variable {prog : Program} {w : World} {A : Around} {E : Value → Shared → Prop} {s : Shared}

theorem drive_one {m m' : Sre.M} {n : Nat} {Q : Sre.M → Shared → Prop} (h1 : m.runFor 4 = m') (h2 : m'.outcome.isSome = true) (h : Q m' s) : wpAny (model prog w) A (reDrive (n + 1) m) Q E s := by
  show wpAny _ _ (if (m.runFor 4).outcome.isSome then pure (m.runFor 4) else do rule "sre.turn"; reDrive n (m.runFor 4)) _ _ s
  rw [h1, if_pos h2]
  exact wpAny_pure h
theorem drive_more {m m' : Sre.M} {n : Nat} {Q : Sre.M → Shared → Prop} (h1 : m.runFor 4 = m') (h2 : m'.outcome = none) (h : wpAny (model prog w) A (reDrive n m') Q E s) : wpAny (model prog w) A (reDrive (n + 1) m) Q E s := by
  show wpAny _ _ (if (m.runFor 4).outcome.isSome then pure (m.runFor 4) else do rule "sre.turn"; reDrive n (m.runFor 4)) _ _ s
  rw [h1, h2]
  exact wpAny_bind (wpAny_rule h)
theorem rules_loop {m : Sre.M} : ∀ (l : List Nat) {Q : PUnit → Shared → Prop}, Q ⟨⟩ s → wpAny (model prog w) A (forIn l PUnit.unit fun i _ => (if m.seen.has i = true then (do rule (Sre.names.getD i ""); pure (ForInStep.yield PUnit.unit)) else pure (ForInStep.yield PUnit.unit) : Sem (ForInStep PUnit))) Q E s
  | [], Q, h => wpAny_pure h
  | i :: l, Q, h => by
    rw [List.forIn_cons]
    refine wpAny_bind ?_
    by_cases hq : m.seen.has i = true
    · rw [if_pos hq]
      exact wpAny_bind (wpAny_rule (wpAny_pure (rules_loop l h)))
    · rw [if_neg hq]
      exact wpAny_pure (rules_loop l h)
/-- what a hit is -/
structure Hit (p : Nat) (m : Sre.M) : Prop where
  start : m.start = p
  handed : m.handed = p + 1
  marks : m.marks = #[some p, some (p + 1)]
  lastmark : m.lastmark = 1
  lastindex : m.lastindex = 1
theorem to_end {m m' : Sre.M} {Q : Option Sre.M → Shared → Prop} (hd : ∀ (n : Nat) (P : Sre.M → Shared → Prop), P m' s → wpAny (model prog w) A (reDrive (n + 1 + 1) m) P E s) (h : wpAny (model prog w) A (match m'.outcome with
    | some .matched => (pure (some m') : Sem (Option Sre.M))
    | some .failed => pure none
    | some (.stuck why) => unsupported s!"_sre:{why}"
    | none => unsupported "internal:sre:no-outcome") Q E s) : wpAny (model prog w) A (reRunToEnd m) Q E s := by
  unfold reRunToEnd
  have e : (2 : Nat) ^ 64 = 18446744073709551614 + 1 + 1 := by decide +kernel
  rw [e]
  refine wpAny_bind (hd _ _ ?_)
  exact wpAny_bind (rules_loop _ h)
theorem found_none {t : ReTarget} {start : Nat} {mu : Bool} {Q : Option Sre.M → Shared → Prop} (ht : t.code = pcode) (hg : t.groups = 1) (hno : ∀ i, start ≤ i → i < t.lim → isSp (t.text.getD i 0) = false) (h : Q none s) : wpAny (model prog w) A (reNextFound t start mu) Q E s := by
  unfold reNextFound
  rw [ht, hg, forSearch_eq]
  have ho : ((if (decide (start > t.lim) || decide (t.lim - start < 1)) = true then (base t.text start t.lim mu 0).say false else (base t.text start t.lim mu t.lim).attemptFrom start true).runFor 4).outcome = some .failed := by
    split
    · exact say_false rfl rfl
    · exact attempt_none hno
  refine to_end (m' := (if (decide (start > t.lim) || decide (t.lim - start < 1)) = true then (base t.text start t.lim mu 0).say false else (base t.text start t.lim mu t.lim).attemptFrom start true).runFor 4) (fun n P hP => ?_) ?_
  · exact drive_one rfl (by rw [ho]; rfl) hP
  · rw [ho]
    exact wpAny_pure h
theorem found_some {t : ReTarget} {start p : Nat} {mu : Bool} {Q : Option Sre.M → Shared → Prop} (ht : t.code = pcode) (hg : t.groups = 1) (h1 : start ≤ p) (h2 : p < t.lim) (h3 : isSp (t.text.getD p 0) = true) (h4 : ∀ i, start ≤ i → i < p → isSp (t.text.getD i 0) = false) (h : ∀ m, Hit p m → Q (some m) s) : wpAny (model prog w) A (reNextFound t start mu) Q E s := by
  unfold reNextFound
  have hc : (decide (start > t.lim) || decide (t.lim - start < 1)) = false := by
    rw [decide_eq_false (by lia), decide_eq_false (by exact (fun hq => (lif [_, _, _, _] (.s 1 (.v 0) (.v 1) (.s 1 (.a (.v 1) (.n 1)) (.v 2) (.s 1 (.a (.v 3) (.n 1)) (.n 1) (.s 1 (.v 2) (.a (.v 3) (.v 0)) .z)))) rfl h1 h2 hq (subx _ _))))]; rfl
  rw [ht, hg, forSearch_eq, hc]
  obtain ⟨seen, e⟩ := attempt_some (mu := mu) h1 h2 h3 h4
  rw [if_neg Bool.false_ne_true, e]
  obtain ⟨r1, m', r2, r3, r4, r5, r6, r7, r8⟩ := hit_runs t.text t.lim p t.lim seen h2 h3
  refine to_end (m' := m') (fun n P hP => ?_) ?_
  · exact drive_more rfl r1 (drive_one r2 (by rw [r3]; rfl) hP)
  · rw [r3]
    exact wpAny_pure (h m' ⟨r4, r5, r6, r7, r8⟩)
end
end Mine
end

-- the text N11
section
open PySem PySem.Calls PySem.W PyProof.Rows
set_option maxRecDepth 100000
namespace Mine
section
variable {prog : Program} {w : World}

noncomputable def ftable : List (List (Nat × Nat)) :=
  [[(40960, 108), (49152, 115), (32768, 45), (24576, 98), (16384, 100), (8192, 99), (4096, 112)], [(256, 114)], [(128, 119)], [(2112, 115), (2048, 83), (64, 120)], [(32, 114)], [(16, 119)], [(1032, 115), (1024, 83), (8, 120)], [(4, 114)], [(2, 119)], [(513, 116), (512, 84), (1, 120)]]
noncomputable abbrev pairD (p : Nat × Nat) : D := .tuple [dz p.1, ds [p.2]]
noncomputable abbrev rowD (r : List (Nat × Nat)) : D := .tuple (r.map pairD)
noncomputable abbrev tableD : D := .tuple (ftable.map rowD)
set_option maxHeartbeats 4000000 in
theorem table_is : Is (fun a => (KK w).lookup a) tableD (.ref 102) := by
  refine Is.tuple (by rfl) (by rfl) (by rfl) ?_
  show IsL _ _ [_, _, _, _, _, _, _, _, _, _]
  repeat' first
    | exact IsL.nil
    | exact Is.int _ _
    | exact Is.str _ _
    | refine IsL.cons ?_ ?_
    | refine Is.tuple (by rfl) (by rfl) (by rfl) ?_

theorem bitAnd_nat (a b : Nat) : Builtin.bitAnd (a : Int) (b : Int) = ((a &&& b : Nat) : Int) := by
  rw [bitAnd_pp (by simp) (by simp)]; simp
theorem nand {K : Frag} {n : Nat} {sx : Sx} {S : State} {l r : Expr} {pos : Pos} {a b : Nat} (h1 : Evals prog w K n sx S l (.d (dz a))) (h2 : Evals prog w K n sx S r (.d (dz b))) : Evals prog w K n sx S (.BinOp l .BitAnd r pos) (.d (dz (a &&& b))) := by
  have := ev_binop (pos := pos) h1 h2 op_and_int
  rwa [bitAnd_nat] at this
noncomputable def hit (i m : Nat) (p : Nat × Nat) : Bool := if i == 0 then (m &&& 61440) == p.1 else (m &&& p.1) == p.1
noncomputable def rowChar (i m : Nat) (row : List (Nat × Nat)) : Nat := match row.find? (hit i m) with
  | some p => p.2
  | none => if i == 0 then 63 else 45
noncomputable def modeTxt (m : Nat) : List Nat := ftable.zipIdx.map fun p => rowChar p.2 m p.1
noncomputable abbrev chvs (l : List Nat) : List V := l.map fun c => V.d (ds [c])
set_option maxHeartbeats 8000000 in
theorem spec_filemode {m : Nat} : Spec prog w (KK w) 2 109 [dz m] (ds (modeTxt m)) := by
  refine spec_intro (names := ["mode"]) (by rfl) (by kernel_rfl) (by rfl) ?_ (by decide) (by rfl) (by decide +kernel) (by rfl) (by rfl) (by rfl) (by rfl) (by rfl) (by decide +kernel) ?_
  · exact vs1 fun a => rfl
  · refine runs_cons (run_assignM (evM_list (vs := []) evl_nil (by simp)) (by rfl) ?_)
    refine runs_cons (run_forH ftable.zipIdx (fun p => .tuple [dz p.2, rowD p.1]) (fun d => match d with | .tuple [x, y] => [("index", x), ("table", y)] | _ => []) (fun i => ⟨[("perm", .mu 0), ("mode", .d (dz m))], [.list (chvs ((ftable.zipIdx.take i).map fun p => rowChar p.2 m p.1))]⟩) (fun _ => True) ?_
      (fun p hp => binds_tuple unpacks_tuple (bindsL_cons (binds_name (by rfl)) (bindsL_cons (binds_name (by rfl)) bindsL_nil))) (has rfl ⟨rfl, rfl, trivial⟩) trivial (fun i p hi _ => ?_) fun _ => ?_)
    · have e : (ftable.zipIdx.map fun p => D.tuple [dz p.2, rowD p.1]) = enumD (ftable.map rowD) := by
        unfold enumD
        rw [List.zipIdx_map, List.map_map]; rfl
      rw [e]
      exact src_enum bv (gvD table_is)
    · obtain ⟨row, ix⟩ := p
      have hnext : (ftable.zipIdx.take (i + 1)).map (fun p => rowChar p.2 m p.1) = (ftable.zipIdx.take i).map (fun p => rowChar p.2 m p.1) ++ [rowChar ix m row] := by
        rw [List.take_add_one, hi]; simp
      have hl : ((ftable.zipIdx.take i).map fun p => rowChar p.2 m p.1).length ≤ 10 := by
        rw [List.length_map, List.length_take]; exact Nat.le_trans (Nat.min_le_right _ _) (by decide)
      rw [hnext]
      generalize ((ftable.zipIdx.take i).map fun p => rowChar p.2 m p.1) = old at hl ⊢
      have app : ∀ {S : State} {sx : Sx} {o e : Expr} {apos cpos epos : Pos} {c : Nat} {Q : Fl → State → Prop}, S.muts = [.list (chvs old)] → Evals prog w (KK w) 1 sx S o (.mu 0) → Evals prog w (KK w) 1 sx S e (.d (ds [c])) → Q .next (S.upd 0 (.list (chvs old ++ [.d (ds [c])]))) → (∀ env, attributeBase o "append" env (eval o env) = eval o env) → (apos.endLine == cpos.line) = true → (∀ env, backTo cpos (starEach [e] env) = [(false, eval e env)]) → (∀ env, swapsWith (.Call (.Attribute o "append" apos) [e] [] cpos) none epos.line env = pure false) → Run1 prog w (KK w) 1 sx S (.Expr (.Call (.Attribute o "append" apos) [e] [] cpos) epos) Q := fun {S sx o e apos cpos epos c Q} hm ho he hq h1 h2 h3 h4 => by
        have hm0 : S.muts[0]? = some (.list (chvs old)) := by rw [hm]; rfl
        exact run_append ho (evM_of he) hm0 hm0 (seg_len (by simp; omega)) hq h1 h2 h3 h4
      refine runs_join ⟨[("perm", .mu 0), ("mode", .d (dz m))], [.list (chvs (old ++ [rowChar ix m row]))]⟩ (run_forH row pairD (fun d => match d with | .tuple [x, y] => [("bit", x), ("char", y)] | _ => []) (fun j => ⟨[("index", .d (dz ix)), ("perm", .mu 0), ("mode", .d (dz m))], [.list (chvs old)]⟩) (fun j => ∀ p ∈ row.take j, hit ix m p = false) (src_of lv iters_tuple)
        (fun p hp => binds_tuple unpacks_tuple (bindsL_cons (binds_name (by rfl)) (bindsL_cons (binds_name (by rfl)) bindsL_nil))) (has rfl ⟨rfl, rfl, rfl, trivial⟩) (fun p hp => by simp at hp) (fun j p hj hP => ?_) fun hP => ?_) (runs_nil ⟨trivial, .refl _⟩)
      · obtain ⟨bit, ch⟩ := p
        have hnext2 : hit ix m (bit, ch) = false → ∀ p ∈ row.take (j + 1), hit ix m p = false := fun q p hp => by
          rw [List.take_add_one, hj] at hp
          rcases List.mem_append.mp hp with hp | hp
          · exact hP p hp
          · have : p = (bit, ch) := by simpa using hp
            rw [this]; exact q
        have hfound : hit ix m (bit, ch) = true → rowChar ix m row = ch := fun q => by
          unfold rowChar
          have : row.find? (hit ix m) = some (bit, ch) := by
            have e2 : row = row.take j ++ (bit, ch) :: row.drop (j + 1) := by
              have := List.getElem?_eq_some_iff.mp hj
              obtain ⟨hlt, he⟩ := this
              rw [← he, List.getElem_cons_drop, List.take_append_drop]
            rw [e2, List.find?_append]
            have : (row.take j).find? (hit ix m) = none := List.find?_eq_none.mpr fun p hp => by rw [hP p hp]; simp
            rw [this, List.find?_cons, q]; rfl
          rw [this]
        have fin : ∀ {S : State} {Q : Fl → State → Prop}, hit ix m (bit, ch) = true → S.muts = [.list (chvs old)] → S.get "perm" = some (.mu 0) → S.get "mode" = some (.d (dz m)) → Turn (fun S' => (∀ p ∈ row.take (j + 1), hit ix m p = false) ∧ Has S' ⟨[("index", .d (dz ix)), ("perm", .mu 0), ("mode", .d (dz m))], [.list (chvs old)]⟩) (NextHas ⟨[("perm", .mu 0), ("mode", .d (dz m))], [.list (chvs (old ++ [rowChar ix m row]))]⟩) .brk (S.upd 0 (.list (chvs old ++ [.d (ds [ch])]))) := fun {S Q} q hm h1 h2 => by
          show Has _ _
          refine has ?_ ⟨h1, h2, trivial⟩
          show S.muts.set 0 _ = _
          rw [hm, hfound q]
          simp
        refine runs_cons (run_if (b := ix == 0) (neq lv (nt 0)) (fun h0 => ?_) fun h0 => ?_)
        · have hh : hit ix m (bit, ch) = ((m &&& 61440) == bit) := by unfold hit; rw [h0]; rfl
          refine runs_cons (run_if (b := (m &&& 61440) == bit) (neq ?_ lv) (fun q => ?_) fun q => runs_nil (runs_nil (runs_nil ⟨hnext2 (hh.trans q), has rfl ⟨rfl, rfl, rfl, trivial⟩⟩)))
          · have := spec_S_IFMT (prog := prog) (w := w) (m := (m : Int))
            rw [show (61440 : Int) = ((61440 : Nat) : Int) from rfl, bitAnd_nat] at this
            exact ev_call (ds := [dz m]) gv (evl_cons lv evl_nil) (by rfl) this (by exact (Nat.le_of_ble_eq_true rfl)) (KKtab w) ⟨_, _, rfl, fun _ => rfl⟩
          · exact runs_cons (app (by rfl) lv lv (runs_cons (run_brk (fin (Q := fun _ _ => True) (hh.trans q) (by rfl) (by rfl) (by rfl)))) (by intro _; rfl) (by rfl) (by intro _; rfl) (by intro _; rfl))
        · have hh : hit ix m (bit, ch) = ((m &&& bit) == bit) := by unfold hit; rw [h0]; rfl
          refine runs_cons (run_if (b := (m &&& bit) == bit) (neq ?_ lv) (fun q => ?_) fun q => runs_nil (runs_nil (runs_nil ⟨hnext2 (hh.trans q), has rfl ⟨rfl, rfl, rfl, trivial⟩⟩)))
          · exact nand lv lv
          · exact runs_cons (app (by rfl) lv lv (runs_cons (run_brk (fin (Q := fun _ _ => True) (hh.trans q) (by rfl) (by rfl) (by rfl)))) (by intro _; rfl) (by rfl) (by intro _; rfl) (by intro _; rfl))
      · rw [List.take_length] at hP
        have hnf : row.find? (hit ix m) = none := List.find?_eq_none.mpr fun p hp => by rw [hP p hp]; simp
        have hrc : rowChar ix m row = if ix == 0 then 63 else 45 := by unfold rowChar; rw [hnf]
        refine runs_cons (run_if (b := ix == 0) (neq lv (nt 0)) (fun h0 => ?_) fun h0 => ?_)
        · rw [hrc, h0]
          exact runs_cons (app (by rfl) lv (st [63]) (runs_nil (runs_nil (has (by show [Mut.list _] = [Mut.list _]; simp) ⟨rfl, rfl, trivial⟩))) (by intro _; rfl) (by rfl) (by intro _; rfl) (by intro _; rfl))
        · rw [hrc, h0]
          exact runs_cons (app (by rfl) lv (st [45]) (runs_nil (runs_nil (has (by show [Mut.list _] = [Mut.list _]; simp) ⟨rfl, rfl, trivial⟩))) (by intro _; rfl) (by rfl) (by intro _; rfl) (by intro _; rfl))
    · refine runs_nil ?_
      rw [List.take_length]
      refine runs_freeze (k := 0) (ds := ((modeTxt m).map fun c => [c]).map ds) (by rw [List.map_map, List.map_map]; rfl) ?_
      have e := join_one (modeTxt m)
      refine runs_cons (run_ret (d := ds (joinL [] ((modeTxt m).map fun c => [c]))) (ev_join (st []) lv (by simp) (Nat.le_of_lt_succ (by show (20 : Nat) < _; decide))) (by show Fl.ret _ = Fl.ret _; rw [e]))
end
end Mine
end

-- the text N12
section
open PySem PySem.Calls PySem.W PyProof.Rows
open Sem (wp)
set_option maxRecDepth 100000
namespace Mine
section
variable {prog : Program} {w : World}

noncomputable def mapKeys : List Nat := [40, 41, 91, 93, 123, 125, 63, 42, 43, 45, 124, 94, 36, 92, 46, 38, 126, 35, 32, 9, 10, 13, 11, 12]
noncomputable def mapES : Array DictEntry := (mapKeys.zipIdx.map (fun p => (⟨(p.1 : Int), .int (p.1 : Int) (334 + 6 * p.2), .str (sl [92, p.1]) (338 + 6 * p.2)⟩ : DictEntry))).toArray
set_option maxHeartbeats 4000000 in
theorem map_obj : ∃ ep, (KK w).lookup 45 = some { cls := .type "dict", dict := none, data := .dict mapES ep, slots := #[] } := ⟨_, by rfl⟩
theorem map_keys : KeysOf (intKind prog w) mapES := by
  intro e he
  have he' : e ∈ mapES.toList := by simpa using he
  unfold mapES at he'
  simp only [List.mem_map] at he'
  obtain ⟨p, hp, rfl⟩ := he'
  refine ⟨(p.1 : Int), by simp [intKind, Value.isInt], ?_⟩
  have h1 : ∀ p ∈ mapKeys.zipIdx, ((p.1 : Int)) = hashInt (p.1 : Int) := by decide +kernel
  exact h1 p hp
theorem map_of {h : Heap} (hK : ∀ a o, (KK w).lookup a = some o → h.get? a = some o) : h.MapOf (intKind prog w) 45 (fun k => findBy Value.isInt mapES k) := by
  obtain ⟨ep, e⟩ := map_obj (w := w)
  exact ⟨_, mapES, ep, hK _ _ e, ⟨rfl, rfl, rfl⟩, rfl, map_keys, fun _ => rfl⟩

theorem sub_key_lookup : isSubtype (.type "KeyError") (.type "LookupError") = pure true := by rw [isSubtype_type]; kernel_rfl
theorem lookup_keep {A : Around} {E : Value → Shared → Prop} {s : Shared} {f : Int → Option Value} {c : Nat} {Q : Builtin.Str.Mapped → Shared → Prop} (hh : A.handled = none) (hm : s.heap.MapOf (intKind prog w) 45 f) (hv : f (c : Int) = none) (h : ∀ s', Same s s' → Q .keep s') : wpAny (model prog w) A (Builtin.Str.tableLookup (.ref 45) c) Q E s := by
  unfold Builtin.Str.tableLookup
  refine wpAny_bind (wpAny_attempt (wpAny_bind (wpAny_mkInt (wpAny_getItem_missing_of (knd := intKind prog w) (k := (c : Int)) (by simp [intKind, Value.isInt]) (by decide) hh (f := f) hm hv fun h' e hx => ?_))))
  obtain ⟨ob, t, ho, hc, _⟩ := hx.there
  refine wpAny_bind (wpAny_isInstance (T := "KeyError") (b := true) ⟨_, ho, hc⟩ sub_key_lookup ?_)
  simp only [if_true]
  exact wpAny_bind (wpAny_rule (wpAny_pure (h _ ⟨hx.keeps, rfl, rfl⟩)))
theorem lookup_text {A : Around} {E : Value → Shared → Prop} {s : Shared} {f : Int → Option Value} {c : Nat} {x : Str} {t : Tok} {Q : Builtin.Str.Mapped → Shared → Prop} (hm : s.heap.MapOf (intKind prog w) 45 f) (hv : f (c : Int) = some (.str x t)) (h : ∀ s', Same s s' → Q (.text x) s') : wpAny (model prog w) A (Builtin.Str.tableLookup (.ref 45) c) Q E s := by
  unfold Builtin.Str.tableLookup
  refine wpAny_bind (wpAny_attempt (wpAny_bind (wpAny_mkInt (wpAny_getItem_intMap (f := f) hm.intMap hv ?_))))
  refine wpAny_bind (m := asInt? _) (wpAny_pure (a := none) ?_)
  refine wpAny_bind (m := asStr? _) (wpAny_pure (a := some x) ?_)
  exact wpAny_pure (h _ (Same.toks s _))

theorem forIn_one {β : Type} (c : Nat) (init : β) (body : Nat → β → Sem (ForInStep β)) : forIn (sl [c]).cps init body = (body c init >>= fun r => match r with | .done b => pure b | .yield b => pure b) := by
  show forIn ([c].toArray) init body = _
  rw [List.forIn_toArray, List.forIn_cons]
  refine bind_congr fun r => ?_
  cases r <;> rfl
theorem translate_keep {A : Around} {s : Shared} {f : Int → Option Value} {c : Nat} {t : Tok} {Q : Fin → Shared → Prop} {E : Value → Shared → Prop} (hh : A.handled = none) (hm : s.heap.MapOf (intKind prog w) 45 f) (hv : f (c : Int) = none) (hc : c < 128) (h : ∀ s' t', Same s s' → Q (.done (.ret (.str (sl [c]) t'))) s') :
    wpAny (model prog w) A (Builtin.«str.translate» ⟨[.str (sl [c]) t, .ref 45], []⟩) Q E s := by
  unfold Builtin.«str.translate»
  refine wpAny_bind (m := Builtin.Str.strOneArg _ _) (wpAny_pure (a := (Value.str (sl [c]) t, sl [c], Value.ref 45)) ?_)
  dsimp only
  rw [if_neg (by rw [sl_len]; exact Bool.false_ne_true), forIn_one]
  refine wpAny_bind (wpAny_bind ?_)
  dsimp only
  rw [if_neg (by decide), if_pos (by simp [hc])]
  show wpAny _ _ (Builtin.Str.tableLookup (.ref 45) c >>= _) _ _ s
  refine wpAny_bind (lookup_keep hh hm hv fun s' hs => ?_)
  dsimp only
  refine wpAny_bind (wpAny_pure ?_)
  refine wpAny_pure ?_
  dsimp only
  refine wpAny_pure ?_
  have h0 : ¬ Builtin.Str.tooLong (0 + 1) = true := by decide
  rw [if_neg h0]
  have e : (⟨([⟨#[c]⟩] : List Str).reverse.foldl (fun acc p => acc ++ p.cps) #[]⟩ : Str) = sl [c] := rfl
  rw [e]
  refine wpAny_bind (wpAny_mkStr ?_ (by rw [sl_len]; exact seg_len (by simp)))
  exact wpAny_pure (h _ _ (hs.trans (Same.toks s' _)))
theorem translate_text {A : Around} {s : Shared} {f : Int → Option Value} {c a b : Nat} {t u : Tok} {Q : Fin → Shared → Prop} {E : Value → Shared → Prop} (hm : s.heap.MapOf (intKind prog w) 45 f) (hv : f (c : Int) = some (.str (sl [a, b]) u)) (hc : c < 128) (h : ∀ s' t', Same s s' → Q (.done (.ret (.str (sl [a, b]) t'))) s') :
    wpAny (model prog w) A (Builtin.«str.translate» ⟨[.str (sl [c]) t, .ref 45], []⟩) Q E s := by
  unfold Builtin.«str.translate»
  refine wpAny_bind (m := Builtin.Str.strOneArg _ _) (wpAny_pure (a := (Value.str (sl [c]) t, sl [c], Value.ref 45)) ?_)
  dsimp only
  rw [if_neg (by rw [sl_len]; exact Bool.false_ne_true), forIn_one]
  refine wpAny_bind (wpAny_bind ?_)
  dsimp only
  rw [if_neg (by decide), if_pos (by simp [hc])]
  show wpAny _ _ (Builtin.Str.tableLookup (.ref 45) c >>= _) _ _ s
  refine wpAny_bind (lookup_text hm hv fun s' hs => ?_)
  have hl : ((sl [a, b]).length == 1 && (sl [a, b]).cps.all fun x => decide (x < 128)) = false := by rw [sl_len]; rfl
  simp only [hl, Bool.false_eq_true, if_false]
  refine wpAny_bind (wpAny_pure ?_)
  refine wpAny_bind (wpAny_rule ?_)
  refine wpAny_bind (lookup_text (f := f) ⟨hm.choose, _, _, hs.keep _ _ hm.choose_spec.choose_spec.choose_spec.1, hm.choose_spec.choose_spec.choose_spec.2⟩ hv fun s'' hs' => ?_)
  refine wpAny_pure ?_
  dsimp only
  refine wpAny_pure ?_
  have h0 : ¬ Builtin.Str.tooLong (0 + (sl [a, b]).length) = true := by
    show ¬ Builtin.Str.tooLong 2 = true
    decide
  rw [if_neg h0]
  have e : (⟨([sl [a, b]] : List Str).reverse.foldl (fun acc p => acc ++ p.cps) #[]⟩ : Str) = sl [a, b] := rfl
  rw [e]
  refine wpAny_bind (wpAny_mkStr ?_ (by rw [sl_len]; exact seg_len (by simp)))
  exact wpAny_pure (h _ _ ((hs.trans hs').trans (Same.toks s'' _)))

/-- a method of a text, where the top is looked at -/
theorem ev_smethK {K : Frag} {n : Nat} {sx : Sx} {S : State} {o e : Expr} {name : Str} {id : String} {args : List Expr} {apos pos : Pos} {x : Str} {as : List D} {d : D} (slot : Slot "str" name id) (ty : typeOf (.builtin id) = pure (.type "method_descriptor")) (ho : Evals prog w K n sx S o (.d (.str x))) (ha : EvalsL prog w K n sx S (e :: args) (as.map V.d))
    (h : ∀ (A : Around) (X : List Addr) (G : PH) (s : Shared) (t : Tok) (vs : List Value), Room A n → PSub G s.heap → (∀ a o, K.lookup a = some o → s.heap.get? a = some o) → IsL G as vs → Gives (model prog w) X A (call (.builtin id) (.str x t :: vs)) G s d)
    (hst : ∀ env, starEach (e :: args) env = (false, eval e env) :: starEach args env := by intro _; rfl)
    (hbase : ∀ env, attributeBase o name env (eval o env) = eval o env := by intro _; rfl) (hline : (apos.endLine == pos.line) = true := by rfl)
    (hfew : ∀ env, ((backTo pos (starEach (e :: args) env)).all (fun x => !x.1) && (backToKw pos (keywordEach [] env)).all (fun x => x.1.isSome) && decide ((e :: args).length + ([] : List Keyword).length + (if ([] : List Keyword).isEmpty then 0 else 1) < 30)) = true := by intro _; rfl)
    (hplain : ∀ env, (backTo pos (starEach (e :: args) env)).any (·.1) = false := by intro _; rfl) : Evals prog w K n sx S (.Call (.Attribute o name apos) (e :: args) [] pos) (.d d) := by
  intro A c G ad s R C hsc st
  refine wpAny_Call_method_lateS (hbase _) (hfew _) hline (wpg (ho A c G ad s R C hsc st) fun ov s₁ G₁ g₁ e₁ => ?_)
  (first | obtain rfl := Is.inv e₁ | obtain ⟨_, rfl⟩ := Is.inv e₁)
  have st₁ := st.step C g₁
  refine ⟨"str", id, F.plainAttrs_str, slot, ty, typeIs_str _ _ _, (fun _ e => nomatch e), ?_⟩
  have q := ha A c G₁ ad s₁ pos R C hsc st₁
  have hp := hplain c.env
  rw [hst] at q hp ⊢
  refine Calls.callWith_builtin hp (Calls.evalArgs_plain (wpAny_mono q (fun ys s₂ h₂ => ?_) fun _ _ f => f))
  obtain ⟨G₂, g₂, e₂⟩ := h₂
  have T := (st₁.step C g₂).top C
  exact wpg (h A [tabA] G₂ s₂ _ ys R g₂.sub T.obj (isL_of_isVL e₂)) fun z s₃ G₃ g₃ e₃ => ⟨G₃, (g₁.trans g₂).trans g₃, e₃⟩

noncomputable def lits : List Nat := [112, 99, 100, 98, 108, 115, 114, 119, 120, 83, 116, 84, 44, 45]
noncomputable def escTxt (c : Nat) : List Nat := if c == 45 then [92, 45] else [c]
theorem lits_miss : ∀ c ∈ lits, c = 45 ∨ ((findBy Value.isInt mapES (c : Int)) = none ∧ c < 128) := by
  intro c hc
  simp only [lits, List.mem_cons, List.not_mem_nil, or_false] at hc
  rcases hc with rfl | rfl | rfl | rfl | rfl | rfl | rfl | rfl | rfl | rfl | rfl | rfl | rfl | rfl
  all_goals first
    | exact .inl rfl
    | exact .inr ⟨by rfl, by decide⟩
theorem bc_isi_str {n : Nat} {x : Str} : BCall prog w n (.builtin "isinstance") [.str x, .raw (.type "str")] (.bool true) := by
  intro A X G s xs R sub h
  obtain ⟨_, _, rfl, h1, h2⟩ := IsL.inv h
  have hx_ := h2; clear h2; obtain ⟨_, _, rfl, h2, h3⟩ := IsL.inv hx_; clear hx_
  obtain rfl := IsL.inv h3; obtain ⟨_, rfl⟩ := Is.inv h1; obtain rfl := Is.inv h2
  exact call_isinstance_yes (typeIs_str _ _ _) (by first | rfl | kernel_rfl) (by rw [isSubtype_type]; kernel_rfl) ⟨G, .refl sub, .bool _⟩
set_option tactic.hygienic true in
set_option maxHeartbeats 4000000 in
theorem spec_escape {c : Nat} (hc : c ∈ lits) : Spec prog w (KK w) 1 55 [ds [c]] (ds (escTxt c)) := by
  refine spec_intro (names := ["pattern"]) (by rfl) (by kernel_rfl) (by rfl) ?_ (by decide) (by rfl) (by decide +kernel) (by rfl) (by rfl) (by rfl) (by rfl) (by rfl) (by decide +kernel) ?_
  · exact vs1 fun a => rfl
  · refine runs_cons (run_if (b := true) (tests_of (ev_bcall (ds := [ds [c], .raw (.type "str")]) bv (evl_cons lv (evl_cons bv evl_nil)) bc_isi_str) truthy_bool') (fun _ => ?_) fun h => by cases h)
    refine runs_cons (run_ret (ev_smethK (as := [.raw (.ref 45)]) F.slot_str_translate F.type_str_translate lv (evl_cons gv evl_nil) ?_) rfl)
    intro A X G s t vs R sub hK h
    obtain ⟨_, _, rfl, h1, h2⟩ := IsL.inv h
    obtain rfl := IsL.inv h2; obtain rfl := Is.inv h1
    refine wpAny_call_entry F.slot_str_translate (typeIs_str _ _ _) F.entry_str_translate ?_ (F.args_str_translate_2 _ _)
    rcases lits_miss c hc with rfl | ⟨h1, h2⟩
    · exact translate_text (a := 92) (b := 45) (map_of hK) (by rfl) (by decide) fun s' t' hs => ⟨_, rfl, G, hs.grow sub, .str _ _⟩
    · have e : escTxt c = [c] := by
        unfold escTxt
        split
        · rename_i q
          have : c = 45 := by simpa using q
          subst this
          exact absurd h1 (by intro q; cases q)
        · rfl
      rw [e]
      exact translate_keep R.handled (map_of hK) h1 h2 fun s' t' hs => ⟨_, rfl, G, hs.grow sub, .str _ _⟩
end
end Mine
end

-- the text M30
section
open PySem PySem.Calls PySem.W PyProof.Rows
set_option maxRecDepth 100000
namespace Mine

theorem codeAmong_other {p : Pos} {a b : Int} {c : Value} (hne : (a == (p.line : Int) && b == (p.col : Int)) = false) (l : List Value) (h : TriplesOk l) : codeAmong p (l ++ [rawInt a, rawInt b, c]) = codeAmong p l := by
  fun_induction TriplesOk l with
  | case1 =>
    show codeAmong p [rawInt a, rawInt b, c] = none
    simp only [rawInt, codeAmong]
    rw [hne]; rfl
  | case2 a' t b' u x rest ih =>
    simp only [List.cons_append, codeAmong]
    split
    · rfl
    · exact ih h
  | case3 l h1 h2 => exact h.elim

section
variable {M : Model} {A : Around} {E : Value → Shared → Prop} {s : Shared} {G : PH}

theorem grow_of_ext {ps ps' : Array Value} {h' : Heap} {tk : Nat} {G' : PH} (sub : PSub G s.heap) (gt : G tabA = none) (hx : Heap.ExtBut tabA s.heap h') (le : PLe G G') (ht : h'.get? tabA = some { cls := .none, data := .fields ps' })
    (sub' : ∀ b o, G' b = some o → G b = some o ∨ (New s.heap b ∧ h'.get? b = some o)) (htab : TabInv G' h') : Grow [tabA] G s G' { s with heap := h', toks := tk } := by
  refine ⟨fun b o hb e => hx b o (fun q => hb (List.mem_singleton.mpr q)) e, fun b o e => ?_, le, fun b o e => ?_, fun b o e => (sub' b o e).elim .inl fun q => .inr q.1, fun _ => htab, rfl, id⟩
  · by_cases hb : b = tabA
    · subst hb; exact ⟨_, ht⟩
    · exact ⟨o, hx b o hb e⟩
  · rcases sub' b o e with q | q
    · exact hx b o (fun z => by rw [z, gt] at q; cases q) (sub b o q)
    · exact q.2

set_option tactic.hygienic true in
/-- the code of the lambda -/
theorem lam_code {env : Env} {line : Nat} {name : Str} {p : Arguments} {scope : Scope} {body : FuncBody} {Q : Value → Shared → Prop} (hc : env.code = .ref 61) (hd : CodeHd s.heap 61 tabA) (ti : TabInv G s.heap) (sub : PSub G s.heap) (gt : G tabA = none)
    (h : ∀ a o vs t G' s', Grow [tabA] G s G' s' → G' a = some o → o.data = .fields vs → vs[1]? = some (.str qL t) → Q (.ref a) s') : wpAny M A (functionCode env posL line name qL p scope body) Q E s := by
  obtain ⟨ps, e, ht, r⟩ := id ti
  have hok : s.heap.IsCode 61 tabA ps := hd.code e ht
  cases hq : codeAmong posL ps.toList with
  | some c' =>
    obtain ⟨a, o, vs, t, rfl, h2, h3, h4⟩ := r c' hq
    exact wpAny_functionCode_hit hc hok hq (h a o vs t G s (.refl sub) h2 h3 h4)
  | none =>
    refine wpAny_functionCodeX hc hok (hd.tab e) hq fun c' h' tk hx hge hlt hok' hrec htab' _ => ?_
    obtain ⟨a, o, vs, t, q1, q2, q3, q4⟩ := hrec
    cases q1
    have nb : New s.heap c' := new_ge hge
    refine h c' o vs t (G.put c' o) _ ?_ (PH.put_self _ _ _) q3 q4
    have le := PH.put_le o sub nb
    refine grow_of_ext (ps := ps) sub gt hx le htab'.2 (fun b o' e' => ?_) ⟨_, htab'.2, ?_, fun c hc' => ?_⟩
    · unfold PH.put at e'
      split at e'
      · rename_i hb; subst hb; cases e'; exact .inr ⟨nb, q2⟩
      · exact .inl e'
    · obtain ⟨_, _, _, _, _, _, _, _, _, _, _, _, _, _, _, _, _, f1, f2, f3, _⟩ := hok'
      rw [htab'.2] at f1; cases f1; cases f2; exact f3
    · have hl : (ps ++ #[rawInt posL.line, rawInt posL.col, Value.ref c']).toList = ps.toList ++ [rawInt posL.line, rawInt posL.col, .ref c'] := by simp
      rw [hl, codeAmong_snoc _ ht hq] at hc'
      cases hc'
      exact ⟨c', o, vs, t, rfl, PH.put_self _ _ _, q3, q4⟩

/-- the code of the generator -/
theorem gen_code {env : Env} {pos : Pos} {q : Str} {scope : Scope} {Q : Value → Shared → Prop} (hc : env.code = .ref 61) (hd : CodeHd s.heap 61 tabA) (ti : TabInv G s.heap) (sub : PSub G s.heap) (gt : G tabA = none)
    (hne : (((pos.line : Nat) : Int) == (posL.line : Int) && ((pos.col : Nat) : Int) == (posL.col : Int)) = false)
    (h : ∀ c' s', Grow [tabA] G s G s' → Q c' s') : wpAny M A (genexprCode env pos q scope) Q E s := by
  obtain ⟨ps, e, ht, r⟩ := id ti
  have hok : s.heap.IsCode 61 tabA ps := hd.code e ht
  cases hq : codeAmong pos ps.toList with
  | some c' => exact wpAny_genexprCode_hit hc hok hq (h c' s (.refl sub))
  | none =>
    refine wpAny_genexprCodeX hc hok (hd.tab e) hq fun c' h' tk hx hge hlt hok' hrec htab' _ => ?_
    refine h (.ref c') _ (grow_of_ext (ps := ps) sub gt hx (fun _ _ e => e) htab'.2 (fun b o' e' => .inl e') ⟨_, htab'.2, ?_, fun c hc' => ?_⟩)
    · obtain ⟨_, _, _, _, _, _, _, _, _, _, _, _, _, _, _, _, _, f1, f2, f3, _⟩ := hok'
      rw [htab'.2] at f1; cases f1; cases f2; exact f3
    · have hl : (ps ++ #[rawInt pos.line, rawInt pos.col, Value.ref c']).toList = ps.toList ++ [rawInt pos.line, rawInt pos.col, .ref c'] := by simp
      rw [hl, codeAmong_other hne _ ht] at hc'
      exact r c hc'
end

section
variable {prog : Program} {w : World} {A : Around} {E : Value → Shared → Prop} {s : Shared}
theorem TopF.blts {env : Env} {M : Model} {Q : Addr → Shared → Prop} (T : TopF (KK w) s.heap) (hg : env.globals = mainGlobals) (h : Q builtinsNs s) : wpAny M A (builtinsFor env.globals env.builtins) Q E s := by
  obtain ⟨mg, hm⟩ := T.glob
  obtain ⟨ob, e1, e2, e3, e4⟩ := T.bmod
  have hb : mg "__builtins__" = some (.ref 4) := mg_of T.obj hm (by kernel_rfl)
  exact wpAny_builtinsFor (hg ▸ hm) hb (by decide) e1 e2 e3 e4 h
theorem TopF.codeHd (T : TopF (KK w) s.heap) : CodeHd s.heap 61 tabA := codeHd_of_K T.obj (by kernel_rfl)
end
end Mine
end

-- the text M31
section
open PySem PySem.Calls PySem.W PyProof.Rows
open Builtin Builtin.Re
set_option maxRecDepth 100000
namespace Mine

theorem plainAttrs_pattern : PlainAttrs "re.Pattern" :=
  ⟨⟨"object.__getattribute__", by rw [typeLookup_type, builtinLookup_eq_fast]; kernel_rfl, by decide +kernel⟩, by rw [typeLookup_type, builtinLookup_eq_fast]; kernel_rfl⟩
theorem plainAttrs_match : PlainAttrs "re.Match" :=
  ⟨⟨"object.__getattribute__", by rw [typeLookup_type, builtinLookup_eq_fast]; kernel_rfl, by decide +kernel⟩, by rw [typeLookup_type, builtinLookup_eq_fast]; kernel_rfl⟩
theorem slot_pattern_sub : Slot "re.Pattern" "sub" "re.Pattern.sub" :=
  .of (owner := "re.Pattern") (n := "sub") (by rw [typeLookup_type, builtinLookup_eq_fast]; kernel_rfl) (by decide +kernel) (by decide +kernel) (by decide +kernel)
    (by first | exact .inl (by decide +kernel) | exact .inr (by decide +kernel)) (by rw [isSubtype_type]; kernel_rfl)
theorem slot_match_group : Slot "re.Match" "group" "re.Match.group" :=
  .of (owner := "re.Match") (n := "group") (by rw [typeLookup_type, builtinLookup_eq_fast]; kernel_rfl) (by decide +kernel) (by decide +kernel) (by decide +kernel)
    (by first | exact .inl (by decide +kernel) | exact .inr (by decide +kernel)) (by rw [isSubtype_type]; kernel_rfl)
theorem entry_pattern_sub : entryFor table "re.Pattern.sub" = some Builtin.«re.Pattern.sub» := entryFor_of_tree (by kernel_rfl)
theorem entry_pattern_sub_loop : entryFor table "re.Pattern.sub.loop" = some Builtin.«re.Pattern.sub.loop» := entryFor_of_tree (by kernel_rfl)
theorem entry_match_group : entryFor table "re.Match.group" = some Builtin.«re.Match.group» := entryFor_of_tree (by kernel_rfl)
theorem type_pattern_sub : typeOf (.builtin "re.Pattern.sub") = pure (.type "method_descriptor") := by show builtinType _ = _; rw [builtinType_eq_fast]; kernel_rfl
theorem type_match_group : typeOf (.builtin "re.Match.group") = pure (.type "method_descriptor") := by show builtinType _ = _; rw [builtinType_eq_fast]; kernel_rfl
theorem args_match_group (a b : Value) : argsOk "re.Match.group" ⟨[a, b], []⟩ := by
  unfold argsOk; kernel_rfl
theorem args_pattern_sub (a b c : Value) : argsOk "re.Pattern.sub" ⟨[a, b, c], []⟩ := by
  unfold argsOk; kernel_rfl
section
variable {prog : Program} {w : World} {A : Around} {E : Value → Shared → Prop} {s : Shared}

theorem whole_target {x : List Nat} {t : Tok} {Q : ReTarget → Shared → Prop} (h1 : s.heap.get? 43 = (KK w).lookup 43) (h2 : s.heap.get? 42 = (KK w).lookup 42)
    (h : Q { pattern := .ref 43, string := .str (sl x) t, code := pcode, text := (sl x).cps, kind := 0, groups := 1, pos := 0, lim := (sl x).cps.size } s) : wpAny (model prog w) A (reWholeTarget (.ref 43) (.str (sl x) t)) Q E s := by
  have e1 : (KK w).lookup 43 = some { cls := .type "re.Pattern", data := .fields #[.str (Str.ofString "([&~|])") 294, .int 32 329, .int 1 0, .none, .none, .ref 42, .int 0 0] } := by kernel_rfl
  have e2 : (KK w).lookup 42 = some { cls := .type "tuple", data := .seq #[.int 14 0, .int 14 0, .int 4 0, .int 1 0, .int 1 0, .int 9 0, .int 0 0, .int 64 0, .int 0 0, .int 1342177280 0, .int 0 0, .int 0 0, .int 0 0, .int 0 0, .int 0 0, .int 17 0, .int 0 0, .int 13 0, .int 11 0, .int 9 0, .int 0 0, .int 64 0, .int 0 0, .int 1342177280 0, .int 0 0, .int 0 0, .int 0 0, .int 0 0, .int 0 0, .int 17 0, .int 1 0, .int 1 0] } := by kernel_rfl
  rw [e1] at h1
  rw [e2] at h2
  unfold reWholeTarget
  refine wpAny_bind (wpAny_fieldsOf h1 rfl ?_)
  have et : reTextOf (.str (sl x) t) = pure ((sl x).cps, 0) := by rfl
  rw [et]
  refine wpAny_bind (wpAny_pure ?_)
  dsimp only
  rw [show (reRawNat ((#[.str (Str.ofString "([&~|])") 294, .int 32 329, .int 1 0, .none, .none, .ref 42, .int 0 0] : Array Value).getD 6 .none)) = 0 from rfl]
  simp only [beq_self_eq_true, Bool.true_and, show ((0 : Nat) == 1) = false from rfl, Bool.false_and, Bool.and_true, Bool.false_eq_true, if_false]
  refine wpAny_bind (wpAny_pure ?_)
  show wpAny _ _ (reRawItems (.ref 42) >>= _) _ _ s
  refine wpAny_bind ?_
  unfold reRawItems
  refine wpAny_bind (wpAny_seqItems h2 rfl (wpAny_pure (wpAny_pure ?_)))
  refine (congrArg (fun c => Q { pattern := .ref 43, string := .str (sl x) t, code := c, text := (sl x).cps, kind := 0, groups := 1, pos := 0, lim := (sl x).cps.size } s) (?_ : _ = pcode)).mpr h
  kernel_rfl

/-- the match object -/
noncomputable def matchObj (x : List Nat) (t : Tok) (tp : Addr) : Obj := { cls := .type "re.Match", data := .fields #[.str (sl x) t, .ref 43, rawInt 0, rawInt (sl x).cps.size, rawInt 1, .ref tp] }
noncomputable def spanObj (p : Nat) : Obj := { cls := .type "tuple", data := .seq #[rawInt p, rawInt (p + 1), rawInt p, rawInt (p + 1)] }
theorem new_match {x : List Nat} {t : Tok} {p : Nat} {m : Sre.M} {Q : Value → Shared → Prop} (hm : Hit p m)
    (h : Q (.ref (s.heap.objs.size + 1)) { s with heap := (s.heap.push (spanObj p)).push (matchObj x t s.heap.objs.size) }) : wpAny (model prog w) A (reNewMatch (.ref 43) (.str (sl x) t) 1 0 (sl x).cps.size m) Q E s := by
  obtain ⟨h1, h2, h3, h4, h5⟩ := hm
  unfold reNewMatch
  rw [h1, h2, h3, h4, h5]
  have hp : ¬ (p + 1 < p) := by simp
  simp [show List.range 1 = [0] from rfl, hp]
  refine wpAny_bind (wpAny_newTuple ?_ (by show 4 ≤ sizeLine; rw [sizeLine_eq]; decide))
  unfold newFields
  refine wpAny_newObj_type ?_ (by size_fits)
  rw [Heap.size_push]
  exact h

theorem group_body {x : List Nat} {t u : Tok} {p ch : Nat} {f tp : Addr} {Q : Fin → Shared → Prop} (hf : s.heap.get? f = some (matchObj x t tp)) (ht : s.heap.get? tp = some (spanObj p)) (hc : x[p]? = some ch)
    (h : Q (.done (.ret (.str (sl [ch]) s.toks))) { s with toks := s.toks + 1 }) : wpAny (model prog w) A (Builtin.«re.Match.group» ⟨[.ref f, .int 1 u], []⟩) Q E s := by
  unfold Builtin.«re.Match.group»
  show wpAny _ _ (reFound (.ref f) >>= _) _ _ s
  refine wpAny_bind ?_
  unfold reFound
  refine wpAny_bind (wpAny_fieldsOf hf rfl ?_)
  unfold reRawItems
  refine wpAny_bind ?_
  show wpAny _ _ (seqItems? (.ref tp) >>= _) _ _ s
  refine wpAny_bind (wpAny_seqItems ht rfl (wpAny_pure (wpAny_pure ?_)))
  rw [show Array.map reRawOf ((some #[rawInt p, rawInt (p + 1), rawInt p, rawInt (p + 1)]).getD #[]) = #[(p : Int), (p : Int) + 1, (p : Int), (p : Int) + 1] from by simp [reRawOf, rawInt]]
  have eg : reGroupNumber { fields := #[.str (sl x) t, .ref 43, rawInt 0, rawInt (sl x).cps.size, rawInt 1, .ref tp], spans := #[(p : Int), (p : Int) + 1, (p : Int), (p : Int) + 1] } (.int 1 u) = pure 1 := by
    unfold reGroupNumber
    rfl
  dsimp only
  refine wpAny_bind (wpAny_of_eq eg ?_)
  unfold reGroupText
  have e : (sl x).cps.extract p (p + 1) = #[ch] := by
    obtain ⟨hlt, he⟩ := List.getElem?_eq_some_iff.mp hc
    apply Array.ext'
    simp [Array.toList_extract]
    rw [List.drop_eq_getElem_cons hlt, he]; rfl
  show wpAny _ _ ((if decide ((p : Int) < 0) || decide (((p + 1 : Nat) : Int) < 0) then pure Value.none else do
    let (text, kind) ← reTextOf (.str (sl x) t)
    reSlice text kind (p : Int).toNat ((p + 1 : Nat) : Int).toNat) >>= fun r => ret r) _ _ s
  rw [decide_eq_false (by simp), decide_eq_false (by lia)]
  simp only [Bool.false_eq_true, Bool.or_self, if_false, Int.toNat_natCast]
  show wpAny _ _ ((mkStr ⟨(sl x).cps.extract p (p + 1)⟩) >>= fun r => ret r) _ _ s
  rw [e]
  exact wpAny_bind (wpAny_mkStr (wpAny_pure h) (by show 1 ≤ sizeLine; rw [sizeLine_eq]; decide))
end
end Mine
end

-- the text M32
section
open PySem PySem.Calls PySem.W PyProof.Rows
open Builtin Builtin.Re
set_option maxRecDepth 100000
namespace Mine

noncomputable def subTxt (l : List Nat) : List Nat := l.flatMap fun c => if isSp c then [92, c] else [c]
theorem subTxt_app (a b : List Nat) : subTxt (a ++ b) = subTxt a ++ subTxt b := List.flatMap_append
theorem subTxt_free : ∀ l : List Nat, (∀ c ∈ l, isSp c = false) → subTxt l = l
  | [], _ => rfl
  | a :: l, h => by
    show (if isSp a then [92, a] else [a]) ++ subTxt l = _
    rw [h a List.mem_cons_self, subTxt_free l fun c hc => h c (List.mem_cons_of_mem _ hc)]; rfl
theorem subTxt_len : ∀ l : List Nat, (subTxt l).length ≤ 2 * l.length
  | [] => Nat.le_refl _
  | a :: l => by
    show ((if isSp a then [92, a] else [a]) ++ subTxt l).length ≤ _
    have := subTxt_len l
    rw [List.length_append, List.length_cons]
    split <;> simp <;> lia
/-- the first special sign at d or behind it -/
theorem first_sp (x : List Nat) (d : Nat) : (∀ i, d ≤ i → i < x.length → isSp (x.getD i 0) = false) ∨ ∃ p, d ≤ p ∧ p < x.length ∧ isSp (x.getD p 0) = true ∧ ∀ i, d ≤ i → i < p → isSp (x.getD i 0) = false := by
  by_cases h : ∃ p, d ≤ p ∧ p < x.length ∧ isSp (x.getD p 0) = true
  · right
    obtain ⟨p, h1, h2, h3⟩ := h
    induction p using Nat.strongRecOn with
    | _ p ih =>
      by_cases hq : ∃ q, q < p ∧ d ≤ q ∧ isSp (x.getD q 0) = true
      · obtain ⟨q, q1, q2, q3⟩ := hq
        exact ih q q1 q2 (by exact (lin [_, _, _] (.a (.v 0) (.n 1)) (.v 1) (.s 1 (.a (.v 2) (.n 1)) (.v 1) (.s 1 (.a (.v 0) (.n 1)) (.v 2) .z)) rfl h2 q1)) q3
      · exact ⟨p, h1, h2, h3, fun i h4 h5 => by
          cases hi : isSp (x.getD i 0) with
          | false => rfl
          | true => exact absurd ⟨i, h5, h4, hi⟩ hq⟩
  · left
    intro i h1 h2
    cases hi : isSp (x.getD i 0) with
    | false => rfl
    | true => exact absurd ⟨i, h1, h2, hi⟩ h
theorem seg_free {x : List Nat} {d p : Nat} (hp : p ≤ x.length) (h : ∀ i, d ≤ i → i < p → isSp (x.getD i 0) = false) : subTxt ((x.take p).drop d) = (x.take p).drop d := by
  refine subTxt_free _ fun c hc => ?_
  obtain ⟨i, hi, e⟩ := List.mem_iff_getElem.mp hc
  have hl : ((x.take p).drop d).length = p - d := by simp; simp_all
  have := h (d + i) (by exact (lin [_, _] (.v 0) (.a (.v 0) (.v 1)) .z rfl)) (by grind)
  rw [List.getElem_drop, List.getElem_take] at e
  have hx : x.getD (d + i) 0 = c := by
    rw [List.getD_eq_getElem?_getD, List.getElem?_eq_getElem (by grind)]; exact e
  rw [hx] at this; exact this

theorem TopF.grow {K : Frag} {G G' : PH} {s s' : Shared} (x : TopF K s.heap) (g : Grow [tabA] G s G' s') (hK : K.lookup tabA = none) : TopF K s'.heap := by
  have ne : ∀ b, b ≠ tabA → b ∉ [tabA] := fun b h q => h (List.mem_singleton.mp q)
  obtain ⟨mg, og, es1, ep1, e1, r1⟩ := x.glob
  obtain ⟨mb, ⟨o2, es2, ep2, e2, r2⟩, r2'⟩ := x.blt
  obtain ⟨mc, ⟨o3, es3, ep3, e3, r3⟩, r3'⟩ := x.nolimit
  obtain ⟨ob, e4, r4⟩ := x.bmod
  exact ⟨fun a o e => g.keep a o (ne a fun q => by rw [q, hK] at e; cases e) (x.obj a o e), ⟨mg, og, es1, ep1, g.keep _ _ (ne _ (by decide)) e1, r1⟩, ⟨mb, ⟨o2, es2, ep2, g.keep _ _ (ne _ (by decide)) e2, r2⟩, r2'⟩, ⟨mc, ⟨o3, es3, ep3, g.keep _ _ (ne _ (by decide)) e3, r3⟩, r3'⟩, ob, g.keep _ _ (ne _ (by decide)) e4, r4⟩

theorem strs_snoc {vs : List Value} {ts : List Str} (h : StrsAre vs ts) (y : Str) (u : Tok) : StrsAre (vs ++ [.str y u]) (ts ++ [y]) := by
  induction h with
  | nil => exact .cons _ _ .nil
  | cons a b _ ih => exact .cons _ _ ih
section
variable {prog : Program} {w : World} {A : Around} {E : Value → Shared → Prop}

/-- the call of the function at the matches -/
noncomputable def Turns (prog : Program) (w : World) (A : Around) (G₀ : PH) (s₀ : Shared) (x : List Nat) (t : Tok) (fl : Addr) : Prop :=
  ∀ (G : PH) (s : Shared) (p ch : Nat) (f tp : Addr) (Q : Value → Shared → Prop), Grow [tabA] G₀ s₀ G s → TabInv G s.heap → AllBare s.gens → s.heap.get? f = some (matchObj x t tp) → s.heap.get? tp = some (spanObj p) → x[p]? = some ch →
    (∀ u G' s', Grow [tabA] G s G' s' → Q (.str (sl [92, ch]) u) s') → wpAny (model prog w) A (call (.ref fl) [.ref f]) Q Nope s

theorem push_plain {s : Shared} {L : Addr} {vs : Array Value} {v : Value} {Q : Unit → Shared → Prop} (hl : s.heap.PlainList L vs) (hz : vs.size ≤ 1000000)
    (h : ∀ h', h'.PlainList L (vs.push v) → Heap.SameBut L s.heap h' → Q () { s with heap := h' }) : wpAny (model prog w) A (updateSeq L (·.push v)) Q E s := by
  obtain ⟨n, ho⟩ := hl
  refine wpAny_updateSeq ho rfl ?_ (by rw [sizeLine_eq]; omega) (by rw [Array.size_push, sizeLine_eq]; omega)
  refine h _ ⟨n + 1, ?_⟩ (Heap.SameBut.update ..)
  rw [Heap.get?_update_self _ ho (by rw [Obj.mapSeq_push_plain]; rfl), Obj.mapSeq_push_plain]

theorem sub_loop {x : List Nat} {t : Tok} {fl L : Addr} {G₀ : PH} {s₀ : Shared} (hx : x.length ≤ 100000) (hL₀ : New s₀.heap L) (T₀ : TopF (KK w) s₀.heap) (ti₀ : TabInv G₀ s₀.heap) (hturn : Turns prog w A.in1 G₀ s₀ x t fl) {R : Result → Shared → Prop}
    (hR : ∀ u G' s', Grow [tabA] G₀ s₀ G' s' → R (.ok (.ret (.str (sl (subTxt x)) u))) s') :
    ∀ (k d n : Nat) (G : PH) (s : Shared) (vs : Array Value) (pieces : List (List Nat)), d ≤ x.length → x.length + 1 - d ≤ k → Grow [tabA] G₀ s₀ G s → TabInv G s.heap → AllBare s.gens → s.heap.PlainList L vs → G L = none →
      StrsAre vs.toList (pieces.map sl) → pieces.flatten = subTxt (x.take d) → pieces.length ≤ 2 * d →
      codeAny (model prog w) A (.builtin "re.Pattern.sub.loop" ⟨[.ref 43, .str (sl x) t, .ref fl, rawInt 1, rawInt 0, rawInt n, rawInt d, rawInt d, .bool false, .ref L, .bool false], []⟩) R s := by
  intro k
  induction k with
  | zero =>
    intro d n G s vs pieces hd hk
    omega
  | succ k ih =>
    intro d n G s vs pieces hd hk g ti gb hl gL hs hp hc
    have T := T₀.grow g (KKtab w)
    have e43 : (KK w).lookup 43 = some { cls := .type "re.Pattern", data := .fields #[.str (Str.ofString "([&~|])") 294, .int 32 329, .int 1 0, .none, .none, .ref 42, .int 0 0] } := by kernel_rfl
    have e42 : ∃ o, (KK w).lookup 42 = some o := Option.isSome_iff_exists.mp (by kernel_rfl)
    have hlen : (sl x).cps.size = x.length := by show x.toArray.size = _; simp
    have hget : ∀ i, (sl x).cps.getD i 0 = x.getD i 0 := fun i => by show x.toArray.getD i 0 = _; simp [List.getD_eq_getElem?_getD, Array.getD_eq_getD_getElem?]
    have hsz : vs.size = pieces.length := by have := hs.length; simpa using this
    have hslice : ∀ (b e : Nat) (s : Shared) (Q : Value → Shared → Prop), e ≤ x.length → Q (.str (sl ((x.take e).drop b)) s.toks) { s with toks := s.toks + 1 } → wpAny (model prog w) A.in1 (reSlice (sl x).cps 0 b e) Q (fun e s' => R (.error e) s') s := fun b e s Q he h => by
      show wpAny _ _ (mkStr ⟨(sl x).cps.extract b e⟩) _ _ s
      have ex : (⟨(sl x).cps.extract b e⟩ : Str) = sl ((x.take e).drop b) := by
        show (⟨x.toArray.extract b e⟩ : Str) = ⟨((x.take e).drop b).toArray⟩
        congr 1
        apply Array.ext'
        simp [List.extract_eq_take_drop, List.drop_take]
      rw [ex]
      exact wpAny_mkStr h (by rw [sl_len, sizeLine_eq]; simp; exact (lin [_, _, _] (.v 0) (.a (.n 16777216) (.v 1)) (.s 1 (.v 2) (.n 100000) (.s 1 (.v 0) (.v 2) .z)) rfl hx (Nat.min_le_right _ _)))
    have hpush : ∀ {G : PH} {s : Shared} {vs : Array Value} {pieces : List (List Nat)} {y : List Nat} {u : Tok} {h' : Heap}, Grow [tabA] G₀ s₀ G s → TabInv G s.heap → G L = none → StrsAre vs.toList (pieces.map sl) → Heap.SameBut L s.heap h' →
        Grow [tabA] G₀ s₀ G { s with heap := h' } ∧ TabInv G h' ∧ StrsAre (vs.push (.str (sl y) u)).toList ((pieces ++ [y]).map sl) := fun {G s vs pieces y u h'} g ti gL hs hb => by
      have hLt : tabA ≠ L := by obtain ⟨o, e⟩ := ti₀.there; exact hL₀.ne e
      refine ⟨g.same (t := s.toks) hL₀ gL hb, ti.at' fun o e => (hb.2 _ hLt).trans e, ?_⟩
      rw [Array.toList_push, List.map_append]
      exact strs_snoc hs _ _
    have hl0 : x.toArray.size = x.length := by simp
    let P : Fin → Shared → Prop := fun fin s' => match fin with
      | .done f => R (.ok f) s'
      | .again c' => c'.quiet = true ∧ codeAny (model prog w) A c' R s'
    have hfin : ∀ (G : PH) (s : Shared) (vs : Array Value) (pieces : List (List Nat)), Grow [tabA] G₀ s₀ G s → TabInv G s.heap → s.heap.PlainList L vs → G L = none → StrsAre vs.toList (pieces.map sl) → pieces.flatten = subTxt x → pieces.length ≤ 2 * x.length + 1 →
        wpAny (model prog w) A.in1 (do
          let joiner ← reSlice x.toArray 0 0 0
          let its ← seqItems? (Value.ref L)
          if (its.getD #[]).isEmpty = true then do
            let r ← pure joiner
            ret r
          else do
            let r ← call (Value.builtin (if ((0 : Nat) == 0) = true then "str.join" else "bytes.join")) [joiner, Value.ref L]
            ret r) P (fun e s' => R (.error e) s') s := fun G s vs pieces g ti hl gL hs hp hc => by
      have hsz : vs.size = pieces.length := by have := hs.length; simpa using this
      refine wpAny_bind (hslice 0 0 s _ (Nat.zero_le _) ?_)
      have hl' : (Heap.PlainList { s with toks := s.toks + 1 }.heap L vs) := hl
      obtain ⟨n, ho⟩ := id hl'
      refine wpAny_bind (wpAny_seqItems ho rfl ?_)
      have g1 : Grow [tabA] G₀ s₀ G { s with toks := s.toks + 1 } := g.trans ((Same.toks s _).grow g.sub)
      by_cases he : vs.isEmpty = true
      · rw [show ((some vs).getD #[]).isEmpty = vs.isEmpty from rfl, if_pos he]
        refine wpAny_bind (wpAny_pure (wpAny_pure ?_))
        have : pieces = [] := List.length_eq_zero_iff.mp (by rw [← hsz]; simpa using he)
        subst this
        have hx0 : subTxt x = [] := hp.symm
        have := hR s.toks G _ g1
        rw [hx0] at this
        exact this
      · rw [show ((some vs).getD #[]).isEmpty = vs.isEmpty from rfl, if_neg he]
        refine wpAny_bind ?_
        rw [show (if ((0 : Nat) == 0) = true then "str.join" else "bytes.join") = "str.join" from rfl]
        have hw : ((pieces.map sl).map (·.length)).sum + (pieces.map sl).length ≤ 1048576 := by
          rw [List.map_map, List.length_map]
          have e1 : ((fun x => x.length) ∘ sl) = fun (x : List Nat) => x.length := by funext x; exact sl_len x
          have e2 : (pieces.map (fun x => x.length)).sum = pieces.flatten.length := by rw [List.length_flatten]
          have := subTxt_len x
          rw [e1, e2, hp]; exact (lin [_, _, _] (.a (.v 0) (.v 1)) (.n 1048576) (.s 4 (.v 2) (.n 100000) (.s 1 (.v 1) (.a (.m 2 (.v 2)) (.n 1)) (.s 1 (.v 0) (.m 2 (.v 2)) .z))) rfl hx hc this)
        refine join_listW (hl'.isList) hs (by rw [sl_len]; simp) hw fun t' k => ?_
        refine wpAny_pure ?_
        have e : Txt.join (sl ((x.take 0).drop 0)) (pieces.map sl) = sl (subTxt x) := by
          have := (StrLaws.glued_eq_join (sl []) (pieces.map sl)).trans (str_join [] pieces)
          rw [joinL_nil, hp] at this; exact this
        rw [e]
        exact hR _ G _ (g1.trans ((Same.toks _ k).grow g1.sub))
    have hhit : ∀ (G : PH) (s : Shared) (vs : Array Value) (pieces : List (List Nat)) (p : Nat) (m : Sre.M), p < x.length → d ≤ p → isSp (x.getD p 0) = true → Hit p m → Grow [tabA] G₀ s₀ G s → TabInv G s.heap → AllBare s.gens → s.heap.PlainList L vs → G L = none → StrsAre vs.toList (pieces.map sl) → pieces.flatten = subTxt (x.take p) → pieces.length ≤ 2 * p + 1 →
        wpAny (model prog w) A.in1 (do
          let found ← reNewMatch (Value.ref 43) (Value.str (sl x) t) 1 0 x.toArray.size m
          let item ← holding [found] (call (Value.ref fl) [found])
          if (item != Value.none) = true then do
            updateSeq L fun x => x.push item
            again (Code.builtin "re.Pattern.sub.loop" { pos := [Value.ref 43, Value.str (sl x) t, Value.ref fl, rawInt 1, rawInt 0, rawInt ((n : Int) + 1), rawInt ((p + 1 : Nat) : Int), rawInt ((p + 1 : Nat) : Int), Value.bool (p + 1 == p), Value.ref L, Value.bool false] })
          else
            again (Code.builtin "re.Pattern.sub.loop" { pos := [Value.ref 43, Value.str (sl x) t, Value.ref fl, rawInt 1, rawInt 0, rawInt ((n : Int) + 1), rawInt ((p + 1 : Nat) : Int), rawInt ((p + 1 : Nat) : Int), Value.bool (p + 1 == p), Value.ref L, Value.bool false] })) P (fun e s' => R (.error e) s') s := fun G s vs pieces p m hlt hdp hsp hm g ti gb hl gL hs hp hc => by
      have hch : x[p]? = some (x.getD p 0) := by rw [List.getD_eq_getElem?_getD, List.getElem?_eq_getElem hlt]; rfl
      have hsz : vs.size = pieces.length := by have := hs.length; simpa using this
      refine wpAny_bind (new_match hm ?_)
      have sm : Same s { s with heap := (s.heap.push (spanObj p)).push (matchObj x t s.heap.objs.size) } := ⟨fun b o e => Heap.get?_push_of_some _ (Heap.get?_push_of_some _ e), rfl, rfl⟩
      have g1 := g.trans (sm.grow g.sub)
      refine wpAny_bind (wpAny_holding (nope_any (hturn G _ p (x.getD p 0) (s.heap.objs.size + 1) s.heap.objs.size _ g1 (ti.keeps sm.keep) gb ?_ ?_ hch fun u G' s' g2 => ?_)))
      · have := Heap.get?_push_size (s.heap.push (spanObj p)) (o := matchObj x t s.heap.objs.size) rfl
        rw [Heap.size_push] at this; exact this
      · exact Heap.get?_push_of_some _ (Heap.get?_push_size _ rfl)
      rw [show (Value.str (sl [92, x.getD p 0]) u != Value.none) = true from rfl, if_pos rfl]
      have g3 := g1.trans g2
      have hl2 : s'.heap.PlainList L vs := by
        obtain ⟨n, ho⟩ := hl
        exact ⟨n, g2.keep _ _ (fun q => by
          have := List.mem_singleton.mp q
          obtain ⟨o, e⟩ := ti₀.there
          exact hL₀.ne e this.symm) (sm.keep _ _ ho)⟩
      have gL2 : G' L = none := by
        cases q : G' L with
        | none => rfl
        | some o =>
          obtain ⟨n, ho⟩ := hl
          rcases g2.fresh _ _ q with z | z
          · rw [gL] at z; cases z
          · exact absurd rfl (z.ne (sm.keep _ _ ho))
      have ti2 : TabInv G' s'.heap := g2.tab (ti.keeps sm.keep)
      refine wpAny_bind (push_plain hl2 (by exact (lin [_, _, _, _] (.v 0) (.n 1000000) (.s 2 (.v 1) (.n 100000) (.s 2 (.a (.v 2) (.n 1)) (.v 1) (.s 1 (.v 3) (.a (.m 2 (.v 2)) (.n 1)) (.e 1 0 (.v 0) (.v 3) .z)))) rfl hx hlt hc hsz)) fun h' hl3 hb => ?_)
      obtain ⟨q1, q2, q3⟩ := hpush (y := [92, x.getD p 0]) (u := u) g3 ti2 gL2 hs hb
      refine wpAny_pure ⟨plainId_quiet (by decide +kernel) _, ?_⟩
      rw [show (p + 1 == p) = false from by simp]
      have := ih (p + 1) (n + 1) G' { s' with heap := h' } (vs.push (.str (sl [92, x.getD p 0]) u)) (pieces ++ [[92, x.getD p 0]]) (by exact hlt) (by exact (lin [_, _, _, _, _, _] (.v 0) (.v 1) (.s 1 (.v 2) (.a (.v 1) (.n 1)) (.s 1 (.v 3) (.v 4) (.s 1 (.a (.v 5) (.n 1)) (.a (.v 2) (.v 3)) (.e 1 0 (.a (.v 0) (.a (.v 4) (.n 1))) (.a (.v 5) (.n 1)) .z)))) rfl hk hdp (subx _ _) (Nat.sub_add_cancel (lin [_, _] (.a (.v 0) (.n 1)) (.a (.v 1) (.n 1)) (.s 1 (.a (.v 0) (.n 1)) (.v 1) .z) rfl hlt)))) q1 q2 (g2.gens gb) hl3 gL2 q3 (by
        rw [List.flatten_append, hp]
        have e1 : x.take (p + 1) = x.take p ++ [x.getD p 0] := by rw [List.take_add_one, hch]; rfl
        rw [e1, subTxt_app]
        congr 1
        show [92, x.getD p 0] ++ [] = (if isSp (x.getD p 0) then [92, x.getD p 0] else [x.getD p 0]) ++ []
        rw [hsp]; rfl) (by simp; exact (lin [_, _] (.a (.v 0) (.n 1)) (.m 2 (.a (.v 1) (.n 1))) (.s 1 (.v 0) (.a (.m 2 (.v 1)) (.n 1)) .z) rfl hc))
      exact this
    refine codeAny_builtin entry_pattern_sub_loop ?_
    rw [Around.under_plainId (by decide +kernel) _]
    refine wpAny_mono (Q := P) ?_ (fun fin s' h => h) fun _ _ e => e
    unfold Builtin.«re.Pattern.sub.loop»
    show wpAny _ _ (reWholeTarget (.ref 43) (.str (sl x) t) >>= _) _ _ s
    refine wpAny_bind (whole_target (by rw [e43]; exact T.obj _ _ e43) (by obtain ⟨o, e⟩ := e42; rw [e]; exact T.obj _ _ e) ?_)
    dsimp only
    simp only [show ((1 : Int) == 0) = false from rfl, show ((0 : Int) != 0) = false from rfl, Bool.false_and, Bool.false_eq_true, if_false, show ((1 : Int) == 1) = true from rfl, if_true, Int.toNat_natCast]
    rcases first_sp x d with hno | ⟨p, h1, h2, h3, h4⟩
    · refine wpAny_bind (found_none rfl rfl (fun i q1 q2 => by rw [hget]; exact hno i q1 (by rw [← hlen]; exact q2)) ?_)
      dsimp only
      rw [hl0]
      by_cases hdl : d < x.length
      · rw [if_pos hdl]
        refine wpAny_bind (hslice d x.length s _ (Nat.le_refl _) ?_)
        refine wpAny_bind (push_plain (s := { s with toks := s.toks + 1 }) hl (by exact (lin [_, _, _, _] (.v 0) (.n 1000000) (.s 2 (.v 1) (.n 100000) (.s 2 (.v 2) (.v 1) (.s 1 (.v 3) (.m 2 (.v 2)) (.e 1 0 (.v 0) (.v 3) .z)))) rfl hx hd hc hsz)) fun h' hl3 hb => ?_)
        have g1 : Grow [tabA] G₀ s₀ G { s with toks := s.toks + 1 } := g.trans ((Same.toks s _).grow g.sub)
        obtain ⟨q1, q2, q3⟩ := hpush (y := (x.take x.length).drop d) (u := s.toks) g1 ti gL hs hb
        refine hfin G _ _ _ q1 q2 hl3 gL q3 ?_ (by simp; exact (lin [_, _, _] (.v 0) (.m 2 (.v 1)) (.s 2 (.v 2) (.v 1) (.s 1 (.v 0) (.m 2 (.v 2)) .z)) rfl hd hc))
        rw [List.flatten_append, hp]
        have e1 : subTxt x = subTxt (x.take d) ++ subTxt (x.drop d) := by rw [← subTxt_app, List.take_append_drop]
        have e2 := seg_free (x := x) (d := d) (p := x.length) (Nat.le_refl _) hno
        rw [List.take_length] at e2 ⊢
        rw [e1, e2]; simp
      · rw [if_neg hdl]
        have hdx : d = x.length := by exact (Nat.le_antisymm hd (lin [_, _] (.v 0) (.v 1) (.s 1 (.v 0) (.v 1) .z) rfl (nlt' hdl)))
        subst hdx
        refine hfin G s vs pieces g ti hl gL hs ?_ (by exact (lin [_, _] (.v 0) (.a (.m 2 (.v 1)) (.n 1)) (.s 1 (.v 0) (.m 2 (.v 1)) .z) rfl hc))
        rw [hp, List.take_length]
    · refine wpAny_bind (found_some rfl rfl h1 (by rw [hlen]; exact h2) (by rw [hget]; exact h3) (fun i q1 q2 => by rw [hget]; exact h4 i q1 q2) fun m hm => ?_)
      dsimp only
      rw [hm.start, hm.handed]
      have e1 : subTxt (x.take p) = subTxt (x.take d) ++ (x.take p).drop d := by
        rw [← seg_free (Nat.le_of_lt h2) h4, ← subTxt_app]
        congr 1
        have : x.take d = (x.take p).take d := by rw [List.take_take]; congr 1; exact (Nat.le_antisymm (lin [_, _] (.v 0) (.v 1) (.e 0 1 (.v 1) (.v 0) .z) rfl (Nat.min_eq_left h1)) (lin [_, _] (.v 0) (.v 1) (.s 1 (.v 0) (.v 1) .z) rfl (Nat.min_le_left _ _)))
        rw [this, List.take_append_drop]
      by_cases hdl : d < p
      · rw [if_pos hdl]
        refine wpAny_bind (hslice d p s _ (Nat.le_of_lt h2) ?_)
        refine wpAny_bind (push_plain (s := { s with toks := s.toks + 1 }) hl (by exact (lin [_, _, _, _] (.v 0) (.n 1000000) (.s 2 (.v 1) (.n 100000) (.s 2 (.v 2) (.v 1) (.s 1 (.v 3) (.m 2 (.v 2)) (.e 1 0 (.v 0) (.v 3) .z)))) rfl hx hd hc hsz)) fun h' hl3 hb => ?_)
        have g1 : Grow [tabA] G₀ s₀ G { s with toks := s.toks + 1 } := g.trans ((Same.toks s _).grow g.sub)
        obtain ⟨q1, q2, q3⟩ := hpush (y := (x.take p).drop d) (u := s.toks) g1 ti gL hs hb
        refine hhit G _ _ _ p m h2 h1 h3 hm q1 q2 gb hl3 gL q3 ?_ (by simp; exact (lin [_, _, _] (.v 0) (.m 2 (.v 1)) (.s 1 (.v 0) (.m 2 (.v 2)) (.s 2 (.v 2) (.v 1) .z)) rfl hc h1))
        rw [List.flatten_append, hp, e1]; simp
      · rw [if_neg hdl]
        have hdp : d = p := by exact (Nat.le_antisymm h1 (lin [_, _] (.v 0) (.v 1) (.s 1 (.v 0) (.v 1) .z) rfl (nlt' hdl)))
        subst hdp
        exact hhit G s vs pieces d m h2 h1 h3 hm g ti gb hl gL hs hp (by exact (lin [_, _] (.v 0) (.a (.m 2 (.v 1)) (.n 1)) (.s 1 (.v 0) (.m 2 (.v 1)) .z) rfl hc))
end
end Mine
end

-- the text M33
section
open PySem PySem.Calls PySem.W PyProof.Rows
set_option maxRecDepth 100000
namespace Mine
section
variable {prog : Program} {w : World} {K : Frag} {n : Nat}

theorem entry_st {f : Addr} {fd : FuncData} {names : List Str} {ds : List D} {s s₁ : Shared} {G : PH} {vs : List Value} (T : TopF K s.heap) (hKt : K.lookup tabA = none) (ti : TabInv G s.heap) (gb : AllBare s.gens) (sub : PSub G s.heap) (gt : G tabA = none)
    (hkg : ∀ a o, K.lookup a = some o → G a = some o) (hvs : IsL G ds vs) (hnd : names.Nodup)
    (hkind : ∀ x ∈ names, fd.scope.names.lookup x = some .local ∨ fd.scope.names.lookup x = some .cell) (hg : fd.globals = mainGlobals) (hb : fd.builtins = builtinsNs) (hk : fd.scope.kind = .function) (hnn : (fd.scope.names.map (·.1)).Nodup)
    (x : InCallC s (callEnvC fd s.heap.objs.size f).locals (bindL (callEnvC fd s.heap.objs.size f).kindOf (names.zip vs) fun _ => none) (callEnvC fd s.heap.objs.size f).cells (bindC (callEnvC fd s.heap.objs.size f).kindOf (names.zip vs) fun _ => none) s₁) :
    ∃ c : Cx, c.env = callEnvC fd s.heap.objs.size f ∧ c.s₀ = s ∧ c.G₀ = G ∧ c.X = [tabA] ∧ CxOk K c ∧ c.sx = sxOf fd ∧ St c G [] (entryS names ds) s₁ := by
  let c : Cx := ⟨callEnvC fd s.heap.objs.size f, s, G, [tabA], (callEnvC fd s.heap.objs.size f).cells.map (·.2)⟩
  have hcellmem : ∀ y a, (callEnvC fd s.heap.objs.size f).cells.lookup y = some a → (y, a) ∈ (callEnvC fd s.heap.objs.size f).cells := fun y a e => mem_of_lookup e
  have tex : ∃ o, s.heap.get? tabA = some o := ti.there
  have C : CxOk K c := by
    refine ⟨hg, hb, hk, new_size _, ?_, ?_, T, List.mem_singleton.mpr rfl, ?_, ?_, ?_, ?_, sub, ?_, hkg⟩
    · intro a ha
      obtain ⟨⟨y, a'⟩, hm, rfl⟩ := List.mem_map.mp ha
      exact new_ge (Nat.le_of_lt (x.above y a' hm))
    · intro hL
      obtain ⟨⟨y, a'⟩, hm, e⟩ := List.mem_map.mp hL
      have := x.above y a' hm
      have e' : a' = s.heap.objs.size := e
      exact absurd (e' ▸ this) (Nat.lt_irrefl _)
    · intro b hb'
      rw [List.mem_singleton.mp hb']
      exact ⟨tex, hKt, by decide, by decide, by decide, by decide⟩
    · intro y a e
      exact .inl (List.mem_map.mpr ⟨_, hcellmem y a e, rfl⟩)
    · intro y z a e e'
      exact name_of_addr x.apart (hcellmem y a e) (hcellmem z a e')
    · intro y hy _
      have := cellsFrom_has fd.scope.names (s.heap.objs.size + 1) [] y hy
      obtain ⟨a, ha⟩ := Option.isSome_iff_exists.mp this
      exact ⟨a, ha, List.mem_map.mpr ⟨_, hcellmem y a ha, rfl⟩⟩
    · intro b hb'
      rw [List.mem_singleton.mp hb']; exact gt
  have gL : ∀ b, s.heap.objs.size ≤ b → G b = none := fun b hb' => by
    cases q : G b with
    | none => rfl
    | some o => exact absurd (Heap.lt_size (sub _ _ q)) (Nat.not_lt.mpr hb')
  have ec : c.env = callEnvC fd s.heap.objs.size f := rfl
  obtain ⟨h₁, tk, e₁⟩ := x.toInCall.same
  have st : St c G [] (entryS names ds) s₁ := by
    refine ⟨fun b o _ e => x.toInCall.keep b o e, fun b hb' => by rw [List.mem_singleton.mp hb']; obtain ⟨o, e⟩ := tex; exact ⟨o, x.toInCall.keep _ _ e⟩, fun _ _ e => e, fun b o e => x.toInCall.keep b o (sub b o e), fun _ _ e => .inl e, ti.keeps x.toInCall.keep, by rw [e₁], by rw [e₁]; exact gb, ⟨_, x.toInCall.ns, ?_⟩, ?_, ?_, gL _ (Nat.le_refl _), ?_, ?_, ?_, ?_, rfl⟩
    · intro y v h1 h2
      obtain ⟨d', y', rfl, e2, e3, _⟩ := zip_bound (kf := (callEnvC fd s.heap.objs.size f).kindOf) (fun _ => none) hnd hvs h1
      exact ⟨y', e3 h2, e2⟩
    · intro y v h1 h2
      obtain ⟨d', y', rfl, e2, _, e4⟩ := zip_bound (kf := (callEnvC fd s.heap.objs.size f).kindOf) (fun _ => none) hnd hvs h1
      have hnl : (callEnvC fd s.heap.objs.size f).kindOf y ≠ some .local := fun q => by
        have h2' : (callEnvC fd s.heap.objs.size f).kindOf y = some .cell ∨ (callEnvC fd s.heap.objs.size f).kindOf y = some .free := h2
        rw [q] at h2'; rcases h2' with h2' | h2' <;> cases h2'
      have hyc : (callEnvC fd s.heap.objs.size f).kindOf y = some .cell := by
        have hm := mem_of_lookup h1
        rcases hkind y (List.of_mem_zip hm).1 with q | q
        · exact absurd q hnl
        · exact q
      obtain ⟨a, ha, _⟩ := C.own y hyc (by
        intro q
        have := cellsFrom_has fd.scope.names (s.heap.objs.size + 1) [] y hyc
        obtain ⟨a, ha⟩ := Option.isSome_iff_exists.mp this
        have hm : a ∈ c.cs := List.mem_map.mpr ⟨_, hcellmem y a ha, rfl⟩
        rw [q] at hm; cases hm)
      exact ⟨a, y', ha, (e4 hnl) ▸ x.cell y a ha, e2⟩
    · intro a ha
      obtain ⟨⟨y, a'⟩, hm, rfl⟩ := List.mem_map.mp ha
      have : ((callEnvC fd s.heap.objs.size f).cells.lookup y).isSome = true := by
        cases q : (callEnvC fd s.heap.objs.size f).cells.lookup y with
        | some _ => rfl
        | none => exact absurd (List.lookup_eq_none_iff.mp q (y, a') hm) (by simp)
      obtain ⟨a'', ha''⟩ := Option.isSome_iff_exists.mp this
      by_cases hq : a'' = a'
      · subst hq; exact ⟨_, x.cell y _ ha''⟩
      · exact absurd (one_of_keys (cellsFrom_keys fd.scope.names (s.heap.objs.size + 1) [] hnn List.nodup_nil (fun _ _ q => nomatch q)) (hcellmem y a'' ha'') hm) hq
    · intro a ha
      obtain ⟨⟨y, a'⟩, hm, rfl⟩ := List.mem_map.mp ha
      exact gL _ (Nat.le_of_lt (x.above y a' hm))
    · intro k m hk'; cases hk'
    · intro k m a hk'; cases hk'
    · intro j k m m' a hj; cases hj
  have hsx : c.sx = sxOf fd := by
    have e1 : (!c.cs.isEmpty) = fd.scope.names.any (·.2 == .cell) := by
      show (!((callEnvC fd s.heap.objs.size f).cells.map (·.2)).isEmpty) = _
      have e2 : (callEnvC fd s.heap.objs.size f).cells = cellsFrom (s.heap.objs.size + 1) fd.scope.names [] := rfl
      rw [List.isEmpty_map, e2, cellsFrom_any]
      simp
    unfold Cx.sx sxOf
    rw [e1]
    rfl
  exact ⟨c, rfl, rfl, rfl, rfl, C, hsx, st⟩

theorem codeAny_call_expr {A : Around} {s : Shared} {R : Result → Shared → Prop} {a : Addr} {o : Obj} {fd : FuncData} {e : Expr} {vals : List Value} {binds : List (Str × Value)}
    (hroom : A.depth < recursionLimit) (ho : s.heap.get? a = some o) (hdata : o.data = .func fd) (hlim : s.heap.NoLimit) (hcd : s.heap.CodeRec fd.code fd.qualname)
    (hbody : fd.body = .expr e) (hbind : bindArgs fd ⟨vals, []⟩ = pure binds) (hclo : fd.closure = [])
    (hkind : ∀ x ∈ binds, fd.scope.names.lookup x.1 = some .local ∨ (fd.scope.names.lookup x.1 = some .cell ∧ ((cellsFrom (s.heap.objs.size + 1) fd.scope.names []).lookup x.1).isSome = true))
    (h : ∀ s₁, InCallC s (callEnvC fd s.heap.objs.size a).locals (bindL (callEnvC fd s.heap.objs.size a).kindOf binds fun _ => none) (callEnvC fd s.heap.objs.size a).cells
        (bindC (callEnvC fd s.heap.objs.size a).kindOf binds fun _ => none) s₁ →
      wpAny (model prog w) (A.deeper (callEnvC fd s.heap.objs.size a)) (eval e (callEnvC fd s.heap.objs.size a)) (fun v s' => R (.ok (.ret v)) s') Nope s₁)
    (hco : fd.scope.isCoroutine = false) (hgen : fd.scope.isGenerator = false) (hk : fd.scope.kind = .function) :
    codeAny (model prog w) A (.call (.ref a) ⟨vals, []⟩) R s := by
  refine codeAny_of_tree ?_
  show wpAny _ A.in1 (callAny (.ref a) ⟨vals, []⟩) _ _ s
  simp only [callAny]
  refine wpAny_bind (wpAny_load ho ?_)
  obtain ⟨c, oc, vs, tq, hc, hoc, hdc, hq⟩ := hcd
  simp only [hdata, callFunction, hco, hgen, hbody, hc]
  refine wpAny_bind (m := field (.ref c) 1) (wpAny_field hoc hdc hq (wpAny_bind (wpAny_pure ?_)))
  rw [hbind, hclo]
  refine wpAny_bind (wpAny_pure (wpAny_bind (wpAny_newFunctionEnv_cells hk hkind fun env he s' x => wpAny_bind (wpAny_enterFrame (hlim.keeps x.toInCall.keep) hroom ?_))))
  have he' : env = callEnvC fd s.heap.objs.size a := by rw [he, ← hc]; rfl
  subst he'
  refine wpAny_pure ⟨rfl, codeAny_of_tree ?_⟩
  show wpAny _ (A.deeper _) (do point; ret (← (eval e (callEnvC fd s.heap.objs.size a)).onRaise (leaving (callEnvC fd s.heap.objs.size a)))) _ _ s'
  refine wpAny_bind (wpAny_point (wpAny_bind (wpAny_onRaise (wpAny_mono (h s' x) (fun v s'' h' => wpAny_pure h') fun _ _ f => f.elim))))
end
end Mine
end

-- the text M34
section
open PySem PySem.Calls PySem.W PyProof.Rows
set_option maxRecDepth 100000
namespace Mine

noncomputable def lamArgs : Arguments := { posonlyargs := [], args := [{ arg := "_m", annotation := none, pos := ⟨67, 46, 67, 48⟩ : Arg }], vararg := none, kwonlyargs := [], kw_defaults := [], kwarg := none, defaults := [] : Arguments }
noncomputable def lamBody : Expr := .BinOp (.Constant (.str "\\") 0 ⟨67, 50, 67, 54⟩) .Add (.BoolOp .Or [.Call (.Attribute (.Name "_m" ⟨67, 58, 67, 60⟩) "group" ⟨67, 58, 67, 66⟩) [.Constant (.int 1) 0 ⟨67, 67, 67, 68⟩] [] ⟨67, 58, 67, 69⟩, .Constant (.str "") 0 ⟨67, 73, 67, 75⟩] ⟨67, 58, 67, 75⟩) ⟨67, 50, 67, 76⟩
noncomputable def lamScope : Scope := { kind := .function, names := [("_m", .local)], isGenerator := false, isCoroutine := false, more := [] : Scope }
noncomputable def lamE : Expr := .Lambda lamArgs lamBody lamScope posL
noncomputable def lamFd (pm : Value) (a : Addr) : FuncData := { name := "<lambda>", qualname := qL, params := lamArgs, body := .expr lamBody, scope := lamScope, globals := mainGlobals, closure := [], code := .ref a, builtins := builtinsNs, defaults := .none, kwdefaults := .none, annotations := none, pyModule := pm, doc := .none }
noncomputable def lamObj (pm : Value) (a : Addr) : Obj := { cls := .type "function", data := .func (lamFd pm a) }
/-- a lambda that stands -/
noncomputable def LamAt (G : PH) (fl : Addr) : Prop := ∃ pm a o vs t, G fl = some (lamObj pm a) ∧ G a = some o ∧ o.data = .fields vs ∧ vs[1]? = some (.str qL t)
theorem LamAt.mono {G G' : PH} {fl : Addr} (x : LamAt G fl) (h : PLe G G') : LamAt G' fl := let ⟨pm, a, o, vs, t, h1, h2, h3⟩ := x; ⟨pm, a, o, vs, t, h _ _ h1, h _ _ h2, h3⟩

section
variable {prog : Program} {w : World} {n : Nat} {sx : Sx} {S : State}

theorem St.gt {K : Frag} {c : Cx} {G : PH} {ad : List Addr} {s : Shared} (C : CxOk K c) (x : St c G ad S s) : G tabA = none := by
  cases q : G tabA with
  | none => rfl
  | some o =>
    rcases x.fresh _ _ q with z | z
    · rw [C.g₀X _ C.tabX] at z; cases z
    · obtain ⟨o', e'⟩ := (C.X _ C.tabX).1; exact absurd rfl (z.ne e')

theorem lam_make {A : Around} {c : Cx} {G : PH} {ad : List Addr} {s : Shared} {Q : Value → Shared → Prop} (C : CxOk (KK w) c) (hq : c.env.qual = "_translate.<locals>.") (hcode : c.env.code = .ref 61) (st : St c G ad S s)
    (h : ∀ fl G' s', Grow [tabA] G s G' s' → LamAt G' fl → Q (.ref fl) s') : wpAny (model prog w) A (eval lamE c.env) Q Nope s := by
  show wpAny _ A (makeFunction "<lambda>" (c.env.qual ++ "<lambda>") lamArgs (.expr lamBody) lamScope c.env [] [] [] posL posL.line) _ _ s
  rw [hq, show (("_translate.<locals>." : Str) ++ "<lambda>") = qL from by decide +kernel, makeFunction_eq]
  refine wpAny_bind (wpAny_pure (wpAny_bind (wpAny_pure (wpAny_bind (wpAny_pure ?_)))))
  have T := st.top C
  show wpAny _ A (makeTail "<lambda>" qL lamArgs (.expr lamBody) lamScope c.env .none .none none posL posL.line) _ _ s
  unfold makeTail
  have hc : closureFor lamScope c.env = pure [] := by rfl
  rw [hc]
  refine wpAny_bind (wpAny_pure (wpAny_bind (wpAny_pure (wpAny_bind ?_))))
  refine lam_code hcode T.codeHd st.tab st.sub (st.gt C) fun a o vs t G₁ s₁ g₁ h1 h2 h3 => ?_
  have st₁ := st.step C g₁
  have T₁ := st₁.top C
  refine wpAny_bind (T₁.blts C.glob ?_)
  obtain ⟨mg, hmg⟩ := T₁.glob
  refine wpAny_bind (wpAny_nsGet (C.glob ▸ hmg) ?_)
  refine wpAny_bind (wpAny_pure ?_)
  refine wpAny_newObj_type ?_ (by size_fits)
  have hnew : New s₁.heap s₁.heap.objs.size := new_size _
  refine h s₁.heap.objs.size (G₁.put s₁.heap.objs.size (lamObj ((mg "__name__").getD .none) a)) _ ?_ ⟨_, a, o, vs, t, PH.put_self _ _ _, PH.put_le _ g₁.sub hnew _ _ h1, h2, h3⟩
  refine g₁.trans ((Same.push s₁ _ s₁.toks).growPut g₁.sub hnew ?_)
  rw [C.glob]
  exact Heap.get?_push_size _ rfl

set_option maxHeartbeats 1000000 in
theorem lam_turns {A : Around} {G₀ : PH} {s₀ : Shared} {x : List Nat} {t : Tok} {fl : Addr} (R : Room A (n + 1)) (T₀ : TopF (KK w) s₀.heap) (hl : LamAt G₀ fl) (gt : G₀ tabA = none) (ti₀ : TabInv G₀ s₀.heap) (hkg : ∀ a o, (KK w).lookup a = some o → G₀ a = some o) : Turns prog w A G₀ s₀ x t fl := by
  intro G s p ch f tp Q g ti gb hf ht hch hQ
  have T := T₀.grow g (KKtab w)
  obtain ⟨pm, a, o, vs, tq, h1, h2, h3, h4⟩ := hl.mono g.le
  have gt' : G tabA = none := by
    cases q : G tabA with
    | none => rfl
    | some o =>
      rcases g.fresh _ _ q with z | z
      · rw [gt] at z; cases z
      · obtain ⟨o', e'⟩ := ti₀.there; exact absurd rfl (z.ne e')
  refine wpAny_call (codeAny_call_expr (fd := lamFd pm a) (binds := [("_m", .ref f)]) R.room (g.sub _ _ h1) rfl T.nolimit ⟨a, o, vs, tq, rfl, g.sub _ _ h2, h3, h4⟩ rfl (by rfl) rfl ?_ ?_ rfl rfl rfl)
  · intro y hy
    rw [List.mem_singleton.mp hy]; exact .inl rfl
  intro s₁ x₁
  obtain ⟨c, ec, es, eG, eX, C, hsx, st⟩ := entry_st (K := KK w) (f := fl) (fd := lamFd pm a) (names := ["_m"]) (ds := [.raw (.ref f)]) (vs := [.ref f]) T (KKtab w) ti gb g.sub gt' (fun a o e => g.le _ _ (hkg a o e)) (.cons (.raw _) .nil) (by decide) (fun y hy => by rw [List.mem_singleton.mp hy]; exact .inl rfl) rfl rfl rfl (by show (lamScope.names.map (·.1)).Nodup; decide +kernel) x₁
  rw [← ec]
  have kf : ∀ {s' : Shared} {G' : PH} {S' : State} {ad : List Addr}, St c G' ad S' s' → ∀ b ob, b ≠ tabA → s.heap.get? b = some ob → s'.heap.get? b = some ob := fun {s' G' S' ad} st' b ob hb e => st'.keep b ob (fun q => hb (by rw [eX] at q; exact List.mem_singleton.mp q)) (es ▸ e)
  have nt : ∀ {b : Addr} {ob : Obj}, s.heap.get? b = some ob → ob.cls ≠ .none → b ≠ tabA := fun {b ob} e hc q => by
    obtain ⟨ps, e', _⟩ := ti
    rw [q, e'] at e; cases e; exact hc rfl
  have done : ∀ {s' : Shared} {G' : PH} {S' : State} {ad : List Addr}, St c G' ad S' s' → Grow [tabA] G s G' s' := fun {s' G' S' ad} y => by
    refine ⟨fun b o hb e => y.keep b o (by rw [eX]; exact hb) (es ▸ e), fun b o e => ?_, eG ▸ y.le, y.sub, fun b o e => by have := y.fresh b o e; rw [eG, es] at this; exact this, fun _ => y.tab, by rw [y.os, es], fun _ => y.gens⟩
    by_cases hb : b ∈ c.X
    · exact y.thX b hb
    · exact ⟨o, y.keep b o hb (es ▸ e)⟩
  have R' : Room (A.deeper c.env) n := R.deeper
  refine wpAny_BinOp (wpg (ev_str (K := KK w) (n := n) (sx := sxOf (lamFd pm a)) _ c G [] s₁ R' C hsx st) fun v₁ s₂ G₂ g₂ e₂ => ?_)
  (first | obtain rfl := Is.inv e₂ | obtain ⟨_, rfl⟩ := Is.inv e₂)
  have st₂ := st.step C g₂
  refine BoolOp_or ?_
  refine Call_method1 (by rfl) (by rfl) rfl (wpg (ev_local (K := KK w) (n := n) (sx := sxOf (lamFd pm a)) (S := entryS ["_m"] [.raw (.ref f)]) (x := "_m") (v := .d (.raw (.ref f))) (by rfl) (by rfl) (by decide) _ c G₂ [] s₂ R' C hsx st₂) fun ov s₃ G₃ g₃ e₃ => ?_)
  (first | obtain rfl := Is.inv e₃ | obtain ⟨_, rfl⟩ := Is.inv e₃)
  have st₃ := st₂.step C g₃
  have hf₃ := kf st₃ _ _ (nt hf (by intro q; cases q)) hf
  have ht₃ := kf st₃ _ _ (nt ht (by intro q; cases q)) ht
  refine ⟨"re.Match", "re.Match.group", plainAttrs_match, slot_match_group, type_match_group, ⟨_, hf₃, rfl⟩, fun a e => by cases e; exact ⟨_, hf₃, rfl⟩, ?_⟩
  refine Calls.callWith_builtin rfl (Calls.evalArgs_plain (Calls.spliced_cons (wpAny_Constant_int (Calls.spliced_nil ?_))))
  refine wpAny_call_entry slot_match_group ⟨_, hf₃, rfl⟩ entry_match_group (group_body hf₃ ht₃ hch ⟨_, rfl, ?_⟩) (args_match_group _ _)
  have st₄ := st₃.step C (((Same.toks s₃ (s₃.toks + 1)).trans (Same.toks _ (s₃.toks + 1 + 1))).grow st₃.sub)
  refine wpg (truthy_str' (l := [ch]) (n := n) (by rw [sizeLine_eq]; show 1 ≤ 16777216; decide) (A.deeper c.env) [tabA] G₃ _ _ R' st₄.sub (.str _ _)) fun b s₅ G₅ g₅ e₅ => ?_
  subst e₅
  have st₅ := st₄.step C g₅
  rw [show (!List.isEmpty [ch]) = true from rfl, if_pos rfl]
  refine wpg (op_add_str (prog := prog) (w := w) (n := n) (a := Str.ofString "\\") (b := sl [ch]) (by show 1 + 1 ≤ sizeLine; rw [sizeLine_eq]; decide) (A.deeper c.env) [tabA] G₅ s₅ _ _ R' st₅.sub (.str _ _) (.str _ _)) fun v s₆ G₆ g₆ e₆ => ?_
  have st₆ := st₅.step C g₆
  have e : (Str.ofString "\\" ++ sl [ch]) = sl [92, ch] := by
    rw [show Str.ofString "\\" = sl [92] from by decide +kernel, sl_app]; rfl
  rw [e] at e₆
  obtain ⟨_, rfl⟩ := Is.inv e₆
  exact hQ _ G₆ s₆ (done st₆)
end
end Mine
end

-- the text M35
section
open PySem PySem.Calls PySem.W PyProof.Rows
open Builtin Builtin.Re
set_option maxRecDepth 100000
namespace Mine
theorem look_call_fn : typeLookup (.type "function") "__call__" = pure (some (.builtin "function.__call__")) := by rw [typeLookup_type, builtinLookup_eq_fast]; kernel_rfl
theorem str_bytearray : isSubtype (.type "str") (.type "bytearray") = pure false := by rw [isSubtype_type]; kernel_rfl
theorem named_sub (a b : Value) : reNamed "re.Pattern.sub" "sub" ["repl", "string", "count"] 2 [a, b] [] = pure [some a, some b, none] := by
  unfold reNamed
  rfl
section
variable {prog : Program} {w : World} {n : Nat} {sx : Sx} {S : State}

theorem call_sub {A : Around} {G : PH} {s : Shared} {x : List Nat} {t : Tok} {fl : Addr} (R : Room A (n + 2)) (T : TopF (KK w) s.heap) (ti : TabInv G s.heap) (gb : AllBare s.gens) (sub : PSub G s.heap) (gt : G tabA = none) (hkg : ∀ a o, (KK w).lookup a = some o → G a = some o) (hl : LamAt G fl) (hx : x.length ≤ 100000) :
    wpAny (model prog w) A (call (.builtin "re.Pattern.sub") [.ref 43, .ref fl, .str (sl x) t]) (fun v s' => ∃ G', Grow [tabA] G s G' s' ∧ Is G' (ds (subTxt x)) v) Nope s := by
  have e43 : (KK w).lookup 43 = some { cls := .type "re.Pattern", data := .fields #[.str (Str.ofString "([&~|])") 294, .int 32 329, .int 1 0, .none, .none, .ref 42, .int 0 0] } := by kernel_rfl
  have e42 : ∃ o, (KK w).lookup 42 = some o := Option.isSome_iff_exists.mp (by kernel_rfl)
  have h43 := T.obj _ _ e43
  have hT : s.TypeIs (.ref 43) "re.Pattern" := ⟨_, h43, rfl⟩
  refine wpAny_call (codeAny_call_builtin slot_pattern_sub.plain entry_pattern_sub (slot_pattern_sub.check _ _ _ _ _ _ _ _ hT (args_pattern_sub _ _ _) ?_))
  unfold Builtin.«re.Pattern.sub»
  show wpAny _ _ (reNamed "re.Pattern.sub" "sub" ["repl", "string", "count"] 2 [.ref fl, .str (sl x) t] [] >>= _) _ _ s
  rw [named_sub]
  refine wpAny_bind (wpAny_pure ?_)
  dsimp only
  refine wpAny_bind (wpAny_pure ?_)
  obtain ⟨pm, a, o, vs, tq, h1, h2, h3, h4⟩ := id hl
  have hF : s.TypeIs (.ref fl) "function" := ⟨_, sub _ _ h1, rfl⟩
  refine wpAny_bind (wpAny_specialOf hF look_call_fn ?_)
  simp only [Option.isSome_some, if_true]
  refine wpAny_bind (wpAny_pure (wpAny_bind (wpAny_pure ?_)))
  dsimp only
  refine wpAny_bind (wpAny_holding (whole_target (by rw [e43]; exact h43) (by obtain ⟨o, e⟩ := e42; rw [e]; exact T.obj _ _ e) ?_))
  rw [show ((1 : Int) == 1) = true from rfl, if_pos rfl]
  have eh : wpAny (model prog w) A.in1 (reNotHeld "re.Pattern.sub" (.str (sl x) t)) (fun _ s' => s' = s) Nope s := by
    unfold reNotHeld
    refine wpAny_bind (wpAny_isInstance (T := "str") (typeIs_str _ _ _) str_bytearray ?_)
    exact wpAny_pure rfl
  refine wpAny_bind (wpAny_mono eh (fun _ s' e => ?_) fun _ _ f => f)
  subst e
  refine wpAny_bind (wpAny_newList ?_)
  refine wpAny_pure ⟨plainId_quiet (by decide +kernel) _, ?_⟩
  have hL₀ : New s'.heap s'.heap.objs.size := new_size _
  have gL : G s'.heap.objs.size = none := by
    cases q : G s'.heap.objs.size with
    | none => rfl
    | some o => exact absurd rfl (hL₀.ne (sub _ _ q))
  have g0 : Grow [tabA] G s' G { s' with heap := s'.heap.push { cls := .type "list", data := .seq #[] } } := (Same.push s' _ s'.toks).grow sub
  exact sub_loop hx hL₀ T ti (lam_turns (A := A.in1) (n := n) R.in1 T hl gt ti hkg) (R := fun r s'' => match r with
    | .ok (.ret v) => ∃ G', Grow [tabA] G s' G' s'' ∧ Is G' (ds (subTxt x)) v
    | .ok _ => False
    | .error e => Nope e s'') (fun u G' s'' g => ⟨G', g, .str _ _⟩) (x.length + 1) 0 0 G _ #[] [] (Nat.zero_le _) (Nat.le_refl _) g0 (ti.keeps fun b o e => Heap.get?_push_of_some _ e) gb ⟨0, Heap.get?_push_size _ rfl⟩ gL .nil rfl (Nat.zero_le _)

/-- the call of sub -/
theorem ev_sub_lam {x : Str} {xp apos pos : Pos} {e2 : Expr} {l : List Nat} (hq : sx.qual = "_translate.<locals>.") (hcode : sx.code = .ref 61) (h1 : Evals prog w (KK w) (n + 2) sx S (.Name x xp) (.d (.raw (.ref 43)))) (h2 : Evals prog w (KK w) (n + 2) sx S e2 (.d (ds l))) (hl : l.length ≤ 100000)
    (hbase : ∀ env, attributeBase (.Name x xp) "sub" env (eval (.Name x xp) env) = eval (.Name x xp) env := by intro _; rfl) (hs : ∀ env, starEach [lamE, e2] env = [(false, eval lamE env), (false, eval e2 env)] := by intro _; rfl) (hline : (apos.endLine == pos.line) = true := by rfl) :
    Evals prog w (KK w) (n + 2) sx S (.Call (.Attribute (.Name x xp) "sub" apos) [lamE, e2] [] pos) (.d (ds (subTxt l))) := by
  intro A c G ad s R C hsc st
  refine Call_method2 (hbase _) (hs _) hline (wpg (h1 A c G ad s R C hsc st) fun ov s₁ G₁ g₁ e₁ => ?_)
  (first | obtain rfl := Is.inv e₁ | obtain ⟨_, rfl⟩ := Is.inv e₁)
  have st₁ := st.step C g₁
  have e43 : (KK w).lookup 43 = some { cls := .type "re.Pattern", data := .fields #[.str (Str.ofString "([&~|])") 294, .int 32 329, .int 1 0, .none, .none, .ref 42, .int 0 0] } := by kernel_rfl
  have h43 := (st₁.top C).obj _ _ e43
  refine ⟨"re.Pattern", "re.Pattern.sub", plainAttrs_pattern, slot_pattern_sub, type_pattern_sub, ⟨_, h43, rfl⟩, fun a e => by cases e; exact ⟨_, h43, rfl⟩, ?_⟩
  refine Calls.callWith_builtin rfl (Calls.evalArgs_plain (Calls.spliced_cons ?_))
  subst hsc
  refine lam_make C hq hcode st₁ fun fl G₂ s₂ g₂ hfl => ?_
  have st₂ := st₁.step C g₂
  refine Calls.spliced_cons (wpg (h2 A c G₂ ad s₂ R C rfl st₂) fun xv s₃ G₃ g₃ e₃ => ?_)
  (first | obtain rfl := Is.inv e₃ | obtain ⟨_, rfl⟩ := Is.inv e₃)
  have st₃ := st₂.step C g₃
  refine Calls.spliced_nil ?_
  refine wpg (call_sub R (st₃.top C) st₃.tab st₃.gens st₃.sub (st₃.gt C) (fun a o e => st₃.le _ _ (C.kg a o e)) (hfl.mono g₃.le) hl) fun v s₄ G₄ g₄ e₄ => ⟨G₄, ((g₁.trans g₂).trans g₃).trans g₄, e₄⟩
end
end Mine
end

-- the text M36
section
open PySem PySem.Calls PySem.W PyProof.Rows
open Builtin Builtin.Str StrLaws
set_option maxRecDepth 100000
namespace Mine

theorem occ_none {l : List Nat} {c : Nat} (h : c ∉ l) : occurrences (sl l) (sl [c]) 0 (sl l).length ((sl l).length + 1) = [] := by
  rw [occ_eq]
  rcases occ_first (sl l) (sl [c]) (sl l).length ((sl l).length + 1) (by exact (lin [_] (.n 1) (.a (.v 0) (.n 1)) .z rfl)) (List.range' 0 ((sl l).length + 1 - 0)) 0 (fun i hi => by have := List.mem_range'_1.mp hi; exact this.1) with ⟨h0, hn⟩ | ⟨pre, a, post, e, h0, ha, hn⟩
  · rw [h0]
  · rw [sl_len, at_one l c l.length a (Nat.le_refl _)] at ha
    exact absurd (List.mem_of_getElem? ha.2) h

noncomputable def genElt : Expr := .Call (.Attribute (.Call (.Attribute (.Name "s" ⟨66, 38, 66, 39⟩) "replace" ⟨66, 38, 66, 47⟩) [.Constant (.str "\\") 0 ⟨66, 48, 66, 52⟩, .Constant (.str "\\\\") 0 ⟨66, 54, 66, 60⟩] [] ⟨66, 38, 66, 61⟩) "replace" ⟨66, 38, 66, 69⟩) [.Constant (.str "-") 0 ⟨66, 70, 66, 73⟩, .Constant (.str "\\-") 0 ⟨66, 75, 66, 80⟩] [] ⟨66, 38, 66, 81⟩
noncomputable def genScope : Scope := { kind := .function, names := [(Str.ofString ".0", .local), (Str.ofString "s", .local)], isGenerator := true, isCoroutine := false, more := [] : Scope }
noncomputable def genPos : Pos := ⟨66, 37, 66, 98⟩
noncomputable def genE : Expr := .GeneratorExp genElt [{ target := .Name "s" ⟨66, 86, 66, 87⟩, iter := .Name "chunks" ⟨66, 91, 66, 97⟩, ifs := [], is_async := 0 : Comprehension }] genScope genPos

section
variable {prog : Program} {w : World}

theorem replace_free {A : Around} {E : Value → Shared → Prop} {s : Shared} {l : List Nat} {c : Nat} {z : Str} {t u v : Tok} {Q : Value → Shared → Prop} (hc : c ∉ l) (hQ : Q (.str (sl l) t) s) : wpAny (model prog w) A (call (.builtin "str.replace") [.str (sl l) t, .str (sl [c]) u, .str z v]) Q E s := by
  refine call_gives F.slot_str_replace (typeIs_str _ _ _) F.entry_str_replace (F.args_str_replace_3 _ _ _) (gives_str_replace (sl l) (sl [c]) z t u v fun hq => ?_) ?_
  · rw [occ_none hc] at hq; cases hq
  · rw [occ_none hc]; exact hQ

theorem gen_elt {A : Around} {E : Value → Shared → Prop} {env : Env} {s : Shared} {m : Str → Option Value} {l : List Nat} {t : Tok} (hk : env.scope.kind = .function) (hs : env.kindOf "s" = some .local) (hn : s.heap.Ns env.locals m) (hm : m "s" = some (.str (sl l) t)) (hc : 92 ∉ l) (hl : l.length ≤ 100000) :
    wpAny (model prog w) A (eval genElt env) (fun y s₃ => (∃ u, y = .str (sl (repl 45 [92, 45] l)) u) ∧ Keeps s s₃) E s := by
  refine Call_method2 (by rfl) (by rfl) rfl ?_
  refine Call_method2 (by rfl) (by rfl) rfl ?_
  refine wpAny_Name (wpAny_loadName_local hk hs hn hm ?_) (by decide)
  refine ⟨"str", "str.replace", F.plainAttrs_str, F.slot_str_replace, F.type_str_replace, typeIs_str _ _ _, (fun _ e => nomatch e), ?_⟩
  refine Calls.callWith_builtin rfl (Calls.evalArgs_plain (Calls.spliced_cons (Constant_str (Calls.spliced_cons (Constant_str (Calls.spliced_nil ?_))))))
  show wpAny _ _ (call (.builtin "str.replace") [.str (sl l) t, .str (Str.ofString "\\") s.toks, .str (Str.ofString "\\\\") (s.toks + 1)]) _ _ _
  rw [show Str.ofString "\\" = sl [92] from by decide +kernel]
  refine replace_free hc ?_
  refine ⟨"str", "str.replace", F.plainAttrs_str, F.slot_str_replace, F.type_str_replace, typeIs_str _ _ _, (fun _ e => nomatch e), ?_⟩
  refine Calls.callWith_builtin rfl (Calls.evalArgs_plain (Calls.spliced_cons (Constant_str (Calls.spliced_cons (Constant_str (Calls.spliced_nil ?_))))))
  show wpAny _ _ (call (.builtin "str.replace") [.str (sl l) t, .str (Str.ofString "-") (s.toks + 1 + 1), .str (Str.ofString "\\-") (s.toks + 1 + 1 + 1)]) _ _ _
  rw [show Str.ofString "-" = sl [45] from by decide +kernel, show Str.ofString "\\-" = sl [92, 45] from by decide +kernel]
  refine SC.replaceW (Nat.succ_ne_zero _) (Nat.succ_ne_zero _) (Nat.ne_of_lt (Nat.lt_succ_self _)) (by rw [sl_beq]; decide) (by rw [sl_len]; omega) (by rw [sl_len]; decide) fun t' k => ?_
  rw [txt_replace]
  exact ⟨⟨_, rfl⟩, s.heap, k, rfl, fun _ _ e => e⟩

theorem genFold_chunks (x : Str) (p : Pos) (env : Env) : ∀ y, genFold (.Name x p) env y = pure y := fun _ => rfl
set_option maxHeartbeats 1000000 in
/-- '-'.join over the generator -/
theorem ev_join_gen {n : Nat} {sx : Sx} {S : State} {k : Nat} {sp apos pos : Pos} {cs : List (List Nat)} (hcode : sx.code = .ref 61) (hch : S.get "chunks" = some (.d (.list (cs.map ds)))) (hck : sx.scope.names.lookup (Str.ofString "chunks") = some .local) (hn92 : ∀ l ∈ cs, 92 ∉ l)
    (hlen : cs.length ≤ 1000) (hsz : ∀ l ∈ cs, l.length ≤ 1000) (hw : ((cs.map (repl 45 [92, 45])).map (·.length)).sum + cs.length ≤ 1000000) (hline : (apos.endLine == pos.line) = true := by rfl) :
    Evals prog w (KK w) (n + 1) sx S (.Call (.Attribute (.Constant (.str "-") k sp) "join" apos) [genE] [] pos) (.d (ds (joinL [45] (cs.map (repl 45 [92, 45]))))) := by
  intro A c G ad s R C hsc st
  refine Call_method1 (by rfl) (by rfl) hline (Constant_str ?_)
  refine ⟨"str", "str.join", F.plainAttrs_str, F.slot_str_join, F.type_str_join, typeIs_str _ _ _, (fun _ e => nomatch e), ?_⟩
  refine Calls.callWith_builtin rfl (Calls.evalArgs_plain (Calls.spliced_cons ?_))
  have g0 : Grow [tabA] G s G { s with toks := s.toks + 1 } := (Same.toks s _).grow st.sub
  have st₀ := st.step C g0
  subst hsc
  have hroom : A.depth < recursionLimit := R.room
  unfold genE
  refine wpAny_GeneratorExp_walksQ (cl := []) R.handled rfl (by rfl) (by decide) (by rfl) (by rfl) rfl hroom ?_ (genFold_chunks _ _ _)
  refine wpg (ev_local (K := KK w) (n := n + 1) (sx := c.sx) hch hck (by decide) A c G ad _ R C rfl st₀) fun xv s₁ G₁ g₁ e₁ => ?_.elim
  have st₁ := st₀.step C g₁
  obtain ⟨a, o, vs, kk, rfl, h1, h2, h3, h4⟩ := Is.inv e₁
  have hl : s₁.heap.IsList a vs := ⟨_, g₁.sub _ _ h1, h2, _, h3⟩
  have hla : a < s₁.heap.objs.size := Heap.lt_size (g₁.sub _ _ h1)
  have hvl : vs.size = cs.length := by have := h4.length; simpa using this
  refine wpAny_pyIter_list hl ?_
  have m1 := Same.push s₁ { cls := .type "list_iterator", data := .fields #[.ref a, .int 0 0] } s₁.toks
  have g₂ : Grow [tabA] G₁ s₁ G₁ { s₁ with heap := s₁.heap.push { cls := .type "list_iterator", data := .fields #[.ref a, .int 0 0] } } := m1.grow g₁.sub
  have st₂ := st₁.step C g₂
  refine ⟨(st₂.top C).nolimit, gen_code hcode (st₂.top C).codeHd st₂.tab st₂.sub (st₂.gt C) (by decide) fun code s₃ g₃ => ?_⟩
  have st₃ := st₂.step C g₃
  refine (st₃.top C).blts C.glob ?_
  have tex := st.tab.there
  have neI : s₁.heap.objs.size ≠ tabA := fun q => by
    obtain ⟨o', e'⟩ := st₁.tab.there
    exact absurd (Heap.lt_size e') (by rw [q]; exact Nat.lt_irrefl _)
  have nea : a ≠ tabA := fun q => by rw [q, st₁.gt C] at h1; cases h1
  have hI₃ : s₃.heap.IsListIter s₁.heap.objs.size a 0 := ⟨_, g₃.keep _ _ (fun q => neI (List.mem_singleton.mp q)) (Heap.get?_push_size _ rfl), rfl, rfl⟩
  have ha₃ : s₃.heap.IsList a vs := by
    obtain ⟨o', e', r'⟩ := hl
    exact ⟨o', g₃.keep _ _ (fun q => nea (List.mem_singleton.mp q)) (m1.keep _ _ e'), r'⟩
  have hIlt : s₁.heap.objs.size < s₃.heap.objs.size := by obtain ⟨o', e', _⟩ := hI₃; exact Heap.lt_size e'
  have halt : a < s₃.heap.objs.size := by obtain ⟨o', e', _⟩ := ha₃; exact Heap.lt_size e'
  have hcw : cStatics ≠ s₁.heap.objs.size := by
    obtain ⟨mc, hc, _⟩ := (st₁.top C).nolimit
    exact Nat.ne_of_lt hc.lt
  have ep : passing (fun _ => true) vs.size 0 = List.range vs.size := by simp [passing]
  have hval : ∀ (i : Nat) (v : Value), vs[i]? = some v → ∃ l t, cs[i]? = some l ∧ v = .str (sl l) t := fun i v hv => by
    obtain ⟨d, hd, hi⟩ := h4.getv (by simpa using hv)
    rw [List.getElem?_map] at hd
    cases hq : cs[i]? with
    | none => rw [hq] at hd; cases hd
    | some l =>
      rw [hq] at hd; cases hd
      obtain ⟨_, rfl⟩ := Is.inv hi
      exact ⟨l, _, rfl, rfl⟩
  refine ⟨s₁.heap.objs.size, [s₁.heap.objs.size, a], [s₁.heap.objs.size], vs.size, fun i v => vs[i]? = some v, fun i h => h.IsListIter s₁.heap.objs.size a i ∧ h.IsList a vs, fun _ => true, fun i y => ∃ u, y = .str (sl (repl 45 [92, 45] (cs.getD i []))) u, rfl,
    fun A' hA => Walks.list hA s₁.heap.objs.size a (Nat.ne_of_lt hla) vs, ⟨hI₃, ha₃⟩, ?_, (st₃.top C).nolimit, ?_, ?_, ?_⟩
  · intro b hb
    rcases List.mem_cons.mp hb with rfl | hb
    · exact hIlt
    · rw [List.mem_singleton.mp hb]; exact halt
  · intro hm; exact hcw (List.mem_singleton.mp hm)
  · intro href hhref
    refine ⟨fun A' E' i v s₂' m₂ hA hP hn hm hk => ?_, fun A' E' i v s₂' m₂ hA hP _ hn hm hk => ?_⟩
    · exact wpAny_pure ⟨rfl, s₂'.heap, s₂'.toks, rfl, fun _ _ e => e⟩
    · obtain ⟨l, t, hl', rfl⟩ := hval i v hP
      have hmem := List.mem_of_getElem? hl'
      refine wpAny_mono (gen_elt (l := l) rfl (by rfl) hn hm (hn92 l hmem) (by have := hsz l hmem; omega)) (fun y s₄ ⟨⟨u, e⟩, k⟩ => ⟨⟨u, ?_⟩, k⟩) fun _ _ e => e
      rw [e, List.getD_eq_getElem?_getD, hl']; rfl
  · intro g h₅ tk gs hb hlt hsz₅ hk₅ W hat
    refine Calls.spliced_nil ?_
    show wpAny _ _ (call (.builtin "str.join") [.str (Str.ofString "-") s.toks, .ref g]) _ _ _
    rw [show Str.ofString "-" = sl [45] from by decide +kernel]
    refine SC.joinGen W.in4_2 (fun i s' st' => st'.1.typeIs) hat ?_ List.mem_cons_self (fun j v hv => ?_) (fun s' lt hm hacc => ?_) ?_
    · intro b hb
      show b < h₅.objs.size
      rw [hsz₅]
      rcases List.mem_cons.mp hb with rfl | hb
      · exact Nat.lt_succ_self _
      · rcases List.mem_cons.mp hb with rfl | hb
        · exact Nat.lt_succ_of_lt hlt
        · exact Nat.lt_succ_of_lt (Nat.lt_trans (List.mem_range.mp hb) hlt)
    · obtain ⟨i, _, u, e⟩ := hv
      exact ⟨_, u, e⟩
    · have hlt' : lt.map (·.1) = (cs.map (repl 45 [92, 45])).map sl := by
        have hn : lt.length = cs.length := by
          have := hacc.1
          rw [ep] at this
          simpa [strValues, hvl] using this
        apply List.ext_getElem?
        intro j
        by_cases hj : j < cs.length
        · have hj' : j < lt.length := hn ▸ hj
          obtain ⟨i, hi, u, e⟩ := hacc.2 j (.str lt[j].1 lt[j].2) (by simp [strValues, List.getElem?_eq_getElem hj'])
          rw [ep, List.getElem?_range (by rw [hvl]; exact hj)] at hi
          cases hi
          injection e with e1 _
          rw [List.getElem?_map, List.getElem?_eq_getElem hj', List.getElem?_map, List.getElem?_map, List.getElem?_eq_getElem hj]
          simp only [Option.map_some, e1, List.getD_eq_getElem?_getD, List.getElem?_eq_getElem hj]
          rfl
        · rw [List.getElem?_eq_none (by simp; exact (lin [_, _, _] (.v 0) (.v 1) (.e 1 0 (.v 0) (.v 2) (.s 1 (.v 2) (.v 1) .z)) rfl hn (nlt' hj))), List.getElem?_eq_none (by simp; exact (lin [_, _] (.v 0) (.v 1) (.s 1 (.v 0) (.v 1) .z) rfl (nlt' hj)))]
      rw [hlt']
      refine ⟨joinOk_of_weight (by
        rw [List.map_map, List.length_map, List.length_map]
        have e1 : ((fun x => x.length) ∘ sl) = fun (x : List Nat) => x.length := by funext x; exact sl_len x
        rw [e1]; omega) (by rw [sl_len]; decide), fun t' k' => ?_⟩
      have e2 : Txt.join (sl [45]) ((cs.map (repl 45 [92, 45])).map sl) = sl (joinL [45] (cs.map (repl 45 [92, 45]))) := (StrLaws.glued_eq_join _ _).trans (str_join [45] _)
      rw [e2]
      have g₀₃ := ((g0.trans g₁).trans g₂).trans g₃
      have newI : New s.heap s₁.heap.objs.size := by
        unfold New
        cases q : s.heap.get? s₁.heap.objs.size with
        | none => rfl
        | some o' =>
          obtain ⟨o'', e''⟩ := (g0.trans g₁).there _ _ q
          exact absurd (Heap.lt_size e'') (Nat.lt_irrefl _)
      have newC : New s.heap s₃.heap.objs.size := by
        unfold New
        cases q : s.heap.get? s₃.heap.objs.size with
        | none => rfl
        | some o' =>
          obtain ⟨o'', e''⟩ := g₀₃.there _ _ q
          exact absurd (Heap.lt_size e'') (Nat.lt_irrefl _)
      have nI : ∀ b o', s₁.heap.get? b = some o' → b ≠ s₁.heap.objs.size := fun b o' e q => absurd (Heap.lt_size e) (by rw [q]; exact Nat.lt_irrefl _)
      have kk : ∀ b o', s₃.heap.get? b = some o' → b ≠ s₁.heap.objs.size → s'.heap.get? b = some o' := fun b o' e hne => hm.heap b o' (fun q => by
        rcases List.mem_cons.mp q with q | q
        · exact absurd (Heap.lt_size e) (by rw [q]; exact Nat.lt_irrefl _)
        · exact hne (List.mem_singleton.mp q)) (hk₅ b o' e)
      have hfin : Grow [tabA] G s G₁ { s' with toks := k' } := by
        refine ⟨fun b o' hb e => kk b o' (g₀₃.keep b o' hb e) (newI.ne e), fun b o' e => ?_, g₀₃.le, fun b o' e => kk b o' (g₃.sub b o' e) (nI b o' (g₁.sub b o' e)), g₀₃.fresh, fun t => (g₀₃.tab t).at' fun o' e => kk _ _ e (Ne.symm neI), ?_, fun t => ?_⟩
        · obtain ⟨o'', e''⟩ := g₀₃.there b o' e
          exact ⟨o'', kk b o'' e'' (newI.ne e)⟩
        · show s'.os = s.os
          rw [hm.os]; exact g₀₃.os
        · show AllBare s'.gens
          exact AllBare.movedS (AllBare.push (g₀₃.gens t) hb) hm
      exact ⟨G₁, hfin, .str _ _⟩
    · rw [ep, List.length_range, hvl, sizeLine_eq]; omega
end
end Mine
end

-- the text M37
section
open PySem PySem.Calls PySem.W PyProof.Rows
set_option maxRecDepth 100000
namespace Mine

/-! the signs of a pattern, item by item -/
inductive Item where
  | star | any | lit (c : Nat) | brk (st out : List Nat)
noncomputable def Item.text : Item → List Nat
  | .star => [42]
  | .any => [63]
  | .lit c => [c]
  | .brk st _ => 91 :: (st ++ [93])
noncomputable def Item.part : Item → Option (List Nat)
  | .star => none
  | .any => some [46]
  | .lit c => some (escTxt c)
  | .brk _ out => some (91 :: (out ++ [93]))
noncomputable def textOf (l : List Item) : List Nat := l.flatMap Item.text
noncomputable def pushPart (acc : List (Option (List Nat))) : Option (List Nat) → List (Option (List Nat))
  | none => if acc.getLast? == some none then acc else acc ++ [none]
  | some l => acc ++ [some l]
noncomputable def partsOf (l : List Item) : List (Option (List Nat)) := l.foldl (fun acc it => pushPart acc it.part) []
theorem partsOf_snoc (l : List Item) (it : Item) : partsOf (l ++ [it]) = pushPart (partsOf l) it.part := by simp [partsOf]
theorem pushPart_len (acc : List (Option (List Nat))) (p : Option (List Nat)) : (pushPart acc p).length ≤ acc.length + 1 := by
  cases p with
  | none =>
    show (if acc.getLast? == some none then acc else acc ++ [none]).length ≤ _
    split <;> simp
  | some l => simp [pushPart]
theorem partsOf_len_aux (l : List Item) : ∀ acc : List (Option (List Nat)), (l.foldl (fun acc it => pushPart acc it.part) acc).length ≤ acc.length + l.length := by
  induction l with
  | nil => intro acc; exact Nat.le_refl _
  | cons a r ih =>
    intro acc
    have h1 := ih (pushPart acc a.part)
    have h2 := pushPart_len acc a.part
    simp only [List.foldl_cons, List.length_cons]
    exact (lin [_, _, _, _] (.v 0) (.a (.v 1) (.a (.v 2) (.n 1))) (.s 1 (.v 0) (.a (.v 3) (.v 2)) (.s 1 (.v 3) (.a (.v 1) (.n 1)) .z)) rfl h1 h2)
theorem partsOf_len (l : List Item) : (partsOf l).length ≤ l.length := by
  have := partsOf_len_aux l []
  simpa [partsOf] using this
noncomputable def optD : Option (List Nat) → D
  | none => .none
  | some l => ds l
noncomputable def optV (o : Option (List Nat)) : V := .d (optD o)

/-- the cuts of a bracket at its '-' -/
noncomputable def chunkLoop (mid : List Nat) : Nat → Nat → Nat → List (List Nat) → Option (List (List Nat) × Nat)
  | 0, _, _, _ => none
  | f + 1, i, k, acc => match fnd mid 45 k mid.length with
    | none => some (acc, i)
    | some q => chunkLoop mid f (q + 1) (q + 3) (acc ++ [(mid.take q).drop i])
/-- the chunks, the last one mended -/
noncomputable def chunksOf (mid : List Nat) (r : List (List Nat) × Nat) : List (List Nat) :=
  if (mid.drop r.2).isEmpty then r.1.set (r.1.length - 1) (r.1.getD (r.1.length - 1) [] ++ [45]) else r.1 ++ [mid.drop r.2]
structure BrkOk (st out : List Nat) : Prop where
  pos : 0 < st.length
  ne33 : st.getD 0 0 ≠ 33
  tail : 93 ∉ st.tail
  len : st.length ≤ 500
  plain : 45 ∉ st → out = subTxt (repl 92 [92, 92] st)
  dash : 45 ∈ st → ∃ r, chunkLoop st 5 0 1 [] = some r ∧ ((st.drop r.2).isEmpty = true → r.1 ≠ []) ∧ r.2 ≤ st.length ∧ out = subTxt (joinL [45] ((chunksOf st r).map (repl 45 [92, 45]))) ∧ (∀ l ∈ chunksOf st r, 92 ∉ l ∧ l ≠ [] ∧ l.length ≤ 501) ∧ (chunksOf st r).length ≤ 10 ∧ r.1.length ≤ 10 ∧
    ∀ k, k + 1 < (chunksOf st r).length → ((chunksOf st r).getD k []).getD (((chunksOf st r).getD k []).length - 1) 0 ≤ ((chunksOf st r).getD (k + 1) []).getD 0 0
  opos : 0 < out.length
  olen : out.length ≤ 5000
  o33 : out.getD 0 0 ≠ 33
  o94 : out.getD 0 0 ≠ 94
  o91 : out.getD 0 0 ≠ 91
theorem subTxt_ge : ∀ l : List Nat, l.length ≤ (subTxt l).length
  | [] => Nat.le_refl _
  | a :: l => by
    show _ ≤ ((if isSp a then [92, a] else [a]) ++ subTxt l).length
    have := subTxt_ge l
    rw [List.length_append, List.length_cons]
    split <;> simp <;> lia
noncomputable def Item.ok : Item → Prop
  | .star => True
  | .any => True
  | .lit c => c ∈ lits
  | .brk st out => BrkOk st out

theorem slc_mid2 (pre mid post : List Nat) {a b : Nat} (ha : a ≤ mid.length) (hb : b ≤ mid.length) : slc (pre ++ mid ++ post) (some ((pre.length + a : Nat) : Int)) (some ((pre.length + b : Nat) : Int)) = (mid.take b).drop a := by
  unfold slc clip
  have hl : (pre ++ mid ++ post).length = pre.length + mid.length + post.length := by simp; exact (lid [_, _, _] (.a (.v 0) (.a (.v 1) (.v 2))) (.a (.a (.v 0) (.v 1)) (.v 2)) rfl)
  simp only [show ∀ x : Nat, ¬ ((x : Int) < 0) from fun x => by simp, if_false, hl]
  rw [show (max 0 (min ((pre.length + a : Nat) : Int) ((pre.length + mid.length + post.length : Nat) : Int))).toNat = pre.length + a by omega, show (max 0 (min ((pre.length + b : Nat) : Int) ((pre.length + mid.length + post.length : Nat) : Int))).toNat = pre.length + b by omega]
  rw [show pre.length + b - (pre.length + a) = b - a by lia, List.append_assoc, List.drop_append, List.drop_of_length_le (by exact (lin [_, _] (.v 0) (.a (.v 0) (.v 1)) .z rfl)), List.nil_append, show pre.length + a - pre.length = a by exact (Nat.le_antisymm (lin [_, _, _] (.v 0) (.v 1) (.e 1 0 (.a (.v 0) (.v 2)) (.a (.v 2) (.v 1)) .z) rfl (Nat.sub_add_cancel (lin [_, _] (.v 0) (.a (.v 0) (.v 1)) .z rfl))) (lin [_, _, _] (.v 0) (.v 1) (.s 1 (.a (.v 2) (.v 0)) (.a (.v 1) (.v 2)) .z) rfl (subx _ _))), List.drop_append, List.take_append, List.length_drop]
  rw [show b - a - (mid.length - a) = 0 by simp_all, List.take_zero, List.append_nil, List.drop_take]
theorem getD_mid (pre mid post : List Nat) {a : Nat} (ha : a < mid.length) : (pre ++ mid ++ post).getD (pre.length + a) 0 = mid.getD a 0 := by
  simp only [List.getD_eq_getElem?_getD]
  rw [List.append_assoc, List.getElem?_append_right (by exact (lin [_, _] (.v 0) (.a (.v 0) (.v 1)) .z rfl)), show pre.length + a - pre.length = a by exact (Nat.le_antisymm (lin [_, _, _] (.v 0) (.v 1) (.e 1 0 (.a (.v 0) (.v 2)) (.a (.v 2) (.v 1)) .z) rfl (Nat.sub_add_cancel (lin [_, _] (.v 0) (.a (.v 0) (.v 1)) .z rfl))) (lin [_, _, _] (.v 0) (.v 1) (.s 1 (.a (.v 2) (.v 0)) (.a (.v 1) (.v 2)) .z) rfl (subx _ _))), List.getElem?_append_left ha]
theorem find_map_some {α β : Type} (f : α → β) (p : β → Bool) (l : List α) : (l.map f).find? p = (l.find? (fun a => p (f a))).map f := by
  induction l with
  | nil => rfl
  | cons a r ih =>
    simp only [List.map_cons, List.find?_cons]
    cases p (f a) <;> simp [ih]
theorem fnd_mid (pre mid post : List Nat) (c a : Nat) : fnd (pre ++ mid ++ post) c (pre.length + a) (pre.length + mid.length) = (fnd mid c a mid.length).map (pre.length + ·) := by
  unfold fnd
  rw [show pre.length + mid.length - (pre.length + a) = mid.length - a by lia]
  rw [show List.range' (pre.length + a) (mid.length - a) = (List.range' a (mid.length - a)).map (pre.length + ·) from by rw [List.map_add_range']]
  rw [find_map_some]
  congr 1
  have : ∀ l : List Nat, (∀ i ∈ l, i < mid.length) → l.find? (fun i => (pre ++ mid ++ post)[pre.length + i]? == some c) = l.find? (fun i => mid[i]? == some c) := by
    intro l
    induction l with
    | nil => intro _; rfl
    | cons x r ih =>
      intro h
      have hx := h x List.mem_cons_self
      simp only [List.find?_cons]
      rw [show (pre ++ mid ++ post)[pre.length + x]? = mid[x]? from by rw [List.append_assoc, List.getElem?_append_right (by exact (lin [_, _] (.v 0) (.a (.v 0) (.v 1)) .z rfl)), show pre.length + x - pre.length = x by exact (Nat.le_antisymm (lin [_, _, _] (.v 0) (.v 1) (.e 1 0 (.a (.v 0) (.v 2)) (.a (.v 2) (.v 1)) .z) rfl (Nat.sub_add_cancel (lin [_, _] (.v 0) (.a (.v 0) (.v 1)) .z rfl))) (lin [_, _, _] (.v 0) (.v 1) (.s 1 (.a (.v 2) (.v 0)) (.a (.v 1) (.v 2)) .z) rfl (subx _ _))), List.getElem?_append_left hx], ih fun i hi => h i (List.mem_cons_of_mem _ hi)]
  exact this _ fun i hi => by have := List.mem_range'_1.mp hi; omega
theorem joinL_sum (sep : List Nat) : ∀ l : List (List Nat), (l.map (·.length)).sum ≤ (joinL sep l).length
  | [] => Nat.le_refl _
  | [a] => by simp [joinL]
  | a :: b :: r => by
    have := joinL_sum sep (b :: r)
    rw [joinL, List.map_cons, List.sum_cons]
    simp only [List.length_append]
    exact (lin [_, _, _, _] (.a (.v 0) (.v 1)) (.a (.a (.v 0) (.v 2)) (.v 3)) (.s 1 (.v 1) (.v 3) .z) rfl this)
theorem fnd_lt {l : List Nat} {c lo hi q : Nat} (h : fnd l c lo hi = some q) : lo ≤ q ∧ q < hi := by
  have := List.mem_range'_1.mp (List.mem_of_find?_eq_some h)
  omega
theorem mget {x y : Mut} {ms : List Mut} : (x :: (ms ++ [y]))[ms.length + 1]? = some y := by simp
theorem mset {x y z : Mut} {ms : List Mut} : (x :: (ms ++ [y])).set (ms.length + 1) z = x :: (ms ++ [z]) := by simp
noncomputable abbrev chv (l : List (List Nat)) : List V := l.map fun x => V.d (ds x)
theorem fz_opt (k : Nat) (es : List D) (acc : List (Option (List Nat))) : Mut.fz k es (.list (acc.map optV)) = .list (acc.map optV) := by
  show Mut.list ((acc.map optV).map (V.fz k es)) = _
  rw [List.map_map]
  congr 1
theorem rangeSize_down {m : Nat} : Builtin.Range.rangeSize (m : Int) 0 (-1) = (m : Nat) := by
  unfold Builtin.Range.rangeSize
  rw [if_neg (by decide), show (-(-1 : Int)) = 1 from rfl, Int.ediv_one]
  split <;> simp_all
theorem small_down {m : Nat} (h : m < 100000) : Builtin.Range.small (m : Int) 0 (-1) = true := by
  unfold Builtin.Range.small
  rw [rangeSize_down]
  simp only [Builtin.Range.rangeFitsLong, Bool.and_eq_true, Bool.or_eq_true, decide_eq_true_eq, beq_iff_eq, show ¬ ((-1 : Int) > 0) by decide, if_false]
  lia
theorem rngItems_down (m : Nat) : rngItems (m : Int) (-1) m = (List.range m).map fun i => dz (m - i) := by
  unfold rngItems
  refine List.map_congr_left fun i hi => ?_
  have := List.mem_range.mp hi
  show D.int _ = D.int _
  congr 1; lia
end Mine
end

-- the text N13
section
open PySem PySem.Calls PySem.W PyProof.Rows
set_option maxRecDepth 100000
namespace Mine
section
variable {prog : Program} {w : World}

noncomputable def trS (pat : List Nat) (i : Nat) (acc : List (Option (List Nat))) (ms : List Mut) : State :=
  ⟨[("res", .mu 0), ("add", .bm 0), ("i", .d (dz i)), ("n", .d (dz pat.length)), ("pat", .d (ds pat)), ("STAR", .d .none), ("QUESTION_MARK", .d (ds [46]))], .list (acc.map optV) :: ms⟩
theorem textOf_app (a b : List Item) : textOf (a ++ b) = textOf a ++ textOf b := List.flatMap_append
theorem neq_self {K : Frag} {n : Nat} {sx : Sx} {S : State} {l r : Expr} {pos : Pos} {a : Nat} (h1 : Evals prog w K n sx S l (.d (dz a))) (h2 : Evals prog w K n sx S r (.d (dz a))) (hm : behindInMarks .Eq r = false := by with_unfolding_all rfl) : Tests prog w K n sx S (.Compare l [.Eq] [r] pos) true := by
  have := neq (pos := pos) h1 h2 hm
  rwa [beq_self_eq_true] at this

set_option tactic.hygienic true in
set_option maxHeartbeats 16000000 in
theorem spec_translate {its : List Item} (hok : ∀ it ∈ its, it.ok) (hlen : its.length ≤ 1000) (hsz : (textOf its).length ≤ 50000) : Spec prog w (KK w) 3 62 [ds (textOf its), .none, ds [46]] (.list ((partsOf its).map optD)) := by
  refine spec_intro (names := ["pat", "STAR", "QUESTION_MARK"]) (by rfl) (by kernel_rfl) (by rfl) ?_ (by decide) (by rfl) (by decide +kernel) (by rfl) (by rfl) (by rfl) (by rfl) (by rfl) (by decide +kernel) ?_
  · exact vs3 fun a b c => rfl
  · generalize hpat : textOf its = pat at hsz ⊢
    refine runs_cons (run_assignM (evM_list (vs := []) evl_nil (by simp)) (by rfl) ?_)
    refine runs_cons (run_assign (v := .bm 0) (ev_bound lv (by rfl)) (by rfl) ?_)
    refine runs_cons (run_unpack2 (x := "i") (y := "n") (a := dz 0) (b := dz pat.length) (ev_tuple (ds := [dz 0, dz pat.length]) (evl_cons (nt 0) (evl_cons (slen bv lv (by omega)) evl_nil)) (seg_len (by simp))) (by rfl) (by rfl) ?_ (by intro env he; cases env; dsimp only at he; subst he; first | rfl | kernel_rfl))
    refine runs_cons (run1_mono (Q := fun f S' => match f with | .next => ∃ ms, Has S' (trS pat pat.length (partsOf its) ms) | _ => False) (run_whileH (m := fun a : Nat × List Mut => its.length - a.1) (C := fun a => trS pat (textOf (its.take a.1)).length (partsOf (its.take a.1)) a.2) (P := fun a => a.1 ≤ its.length) (a₀ := (0, [])) (has rfl ⟨rfl, rfl, rfl, rfl, rfl, rfl, rfl, trivial⟩) (Nat.zero_le _)
      (t := fun a => decide ((textOf (its.take a.1)).length < pat.length)) (fun a hP => nlt lv lv) (fun a hP ht => ?_) (fun a hP ht => ?_)) fun f S' q => ?_)
    · obtain ⟨k, ms⟩ := a
      have hk : k ≤ its.length := hP
      have hlt : (textOf (its.take k)).length < pat.length := by simpa using ht
      have hklt : k < its.length := by
        rcases Nat.lt_or_ge k its.length with q | q
        · exact q
        · rw [List.take_of_length_le q, hpat] at hlt; exact absurd hlt (Nat.lt_irrefl _)
      obtain ⟨it, hit⟩ : ∃ it, its[k]? = some it := ⟨its[k], List.getElem?_eq_getElem hklt⟩
      have hiok : it.ok := hok it (List.mem_of_getElem? hit)
      have htake : its.take (k + 1) = its.take k ++ [it] := by rw [List.take_add_one, hit]; rfl
      have hpt : pat = textOf (its.take k) ++ it.text ++ textOf (its.drop (k + 1)) := by
        have e1 : its = its.take (k + 1) ++ its.drop (k + 1) := (List.take_append_drop _ _).symm
        rw [← hpat]
        conv => lhs; rw [e1]
        rw [textOf_app, htake, textOf_app]
        simp [textOf]
      have hal : (partsOf (its.take k)).length ≤ 1000 := Nat.le_trans (partsOf_len _) (by simp; exact (lin [_, _] (.v 0) (.n 1000) (.s 1 (.v 1) (.n 1000) (.s 1 (.v 0) (.v 1) .z)) rfl hlen (Nat.min_le_right _ _)))
      have hnext : ∀ S' ms', Has S' (trS pat ((textOf (its.take k)).length + it.text.length) (pushPart (partsOf (its.take k)) it.part) ms') → ∃ b : Nat × List Mut, its.length - b.1 < its.length - k ∧ b.1 ≤ its.length ∧ Has S' (trS pat (textOf (its.take b.1)).length (partsOf (its.take b.1)) b.2) := fun S' ms' hH => by
        refine ⟨(k + 1, ms'), by simp only; exact (lin [_, _, _, _] (.a (.v 0) (.n 1)) (.v 1) (.s 1 (.v 2) (.a (.v 1) (.v 3)) (.e 1 0 (.a (.v 0) (.a (.v 3) (.n 1))) (.v 2) .z)) rfl (subx _ _) (Nat.sub_add_cancel hklt)), by simp only; exact hklt, ?_⟩
        simp only
        rw [htake, textOf_app, partsOf_snoc, List.length_append]
        simpa [textOf] using hH
      show Runs prog w (KK w) 2 _ (trS pat (textOf (its.take k)).length (partsOf (its.take k)) ms) _ (Turn _ _)
      generalize textOf (its.take k) = pre at hpt hlt hnext ⊢
      generalize textOf (its.drop (k + 1)) = post at hpt
      generalize partsOf (its.take k) = acc at hal hnext ⊢
      have hpl : pat.length ≤ 50000 := hsz
      have hch : pat.getD pre.length 0 = it.text.getD 0 0 := by
        have h0 : 0 < it.text.length := by cases it <;> simp [Item.text]
        have := getD_mid pre it.text post h0
        rw [hpt]; exact this
      refine runs_cons (run_assign (v := .d (ds [it.text.getD 0 0])) (by rw [← hch]; exact sidx lv lv hlt (by omega)) (by rfl) ?_)
      refine runs_cons (run_assign (v := .d (dz (pre.length + 1))) (nadd lv (nt 1)) (by rfl) ?_)
      have fin : ∀ {S S' : State}, S'.muts = S.muts → True := fun _ => trivial
      cases it with
      | star =>
        refine runs_cons (run_if (b := [42] == [42]) (seq lv (st [42])) (fun _ => ?_) fun h => absurd h (by decide))
        rcases hgl : acc.getLast? with _ | o
        · have hac : acc = [] := List.getLast?_eq_none_iff.mp hgl
          subst hac
          refine runs_cons (run_if (b := (!(!([] : List V).isEmpty)) || false) (tests_or (b := false) (tests_not (tests_mlist lv (by rfl) (by simp))) fun h => by cases h) (fun _ => ?_) fun h => by cases h)
          refine runs_cons (run_add lv lv (by rfl) (by simp) (runs_nil (runs_nil (runs_nil ?_))))
          exact hnext _ ms (has rfl ⟨rfl, rfl, rfl, rfl, rfl, rfl, rfl, trivial⟩)
        · have hal0 : 0 < acc.length := by
            rcases Nat.eq_zero_or_pos acc.length with q | q
            · rw [List.length_eq_zero_iff.mp q] at hgl; cases hgl
            · exact q
          have hem : (acc.map optV).isEmpty = false := by cases acc with | nil => cases hgl | cons _ _ => rfl
          have hlast : (acc.map optV)[(acc.map optV).length - 1]? = some (optV o) := by
            rw [List.length_map, List.getElem?_map, ← List.getLast?_eq_getElem?, hgl]; rfl
          have hj : seqIndex? (-1) (acc.map optV).length = some ((acc.map optV).length - 1) := seqIndex_last (by simpa using hal0)
          cases o with
          | none =>
            refine runs_cons (run_if (b := (!(!(acc.map optV).isEmpty)) || false) (tests_or (tests_not (tests_mlist lv (by rfl) (by simp; omega))) fun _ => tests_cmp (ev_midx lv ev_neg (by rfl) hj hlast (by simp; omega)) lv op_isnot_none_none) (fun h => by rw [hem] at h; cases h) fun _ => runs_nil (runs_nil (runs_nil ?_)))
            refine hnext _ ms (has ?_ ⟨rfl, rfl, rfl, rfl, rfl, rfl, rfl, trivial⟩)
            show (Mut.list (acc.map optV) :: ms) = Mut.list ((if acc.getLast? == some none then acc else acc ++ [none]).map optV) :: ms
            rw [hgl]; rfl
          | some l =>
            refine runs_cons (run_if (b := (!(!(acc.map optV).isEmpty)) || true) (tests_or (tests_not (tests_mlist lv (by rfl) (by simp; omega))) fun _ => tests_cmp (ev_midx lv ev_neg (by rfl) hj hlast (by simp; omega)) lv op_isnot_none_str) (fun _ => ?_) fun h => by rw [hem] at h; cases h)
            refine runs_cons (run_add lv lv (by rfl) (by simp; omega) (runs_nil (runs_nil (runs_nil ?_))))
            refine hnext _ ms (has ?_ ⟨rfl, rfl, rfl, rfl, rfl, rfl, rfl, trivial⟩)
            show (Mut.list (acc.map optV ++ [_]) :: ms) = Mut.list ((if acc.getLast? == some none then acc else acc ++ [none]).map optV) :: ms
            rw [hgl]
            show (Mut.list (acc.map optV ++ [_]) :: ms) = Mut.list ((acc ++ [none]).map optV) :: ms
            rw [List.map_append]; rfl
      | any =>
        refine runs_cons (run_if (b := [63] == [42]) (seq lv (st [42])) (fun h => absurd h (by decide)) fun _ => ?_)
        refine runs_cons (run_if (b := [63] == [63]) (seq lv (st [63])) (fun _ => ?_) fun h => absurd h (by decide))
        refine runs_cons (run_add lv lv (by rfl) (by simp; omega) (runs_nil (runs_nil (runs_nil ?_))))
        refine hnext _ ms (has ?_ ⟨rfl, rfl, rfl, rfl, rfl, rfl, rfl, trivial⟩)
        show (Mut.list (acc.map optV ++ [_]) :: ms) = Mut.list ((acc ++ [some [46]]).map optV) :: ms
        rw [List.map_append]; rfl
      | lit c =>
        have hc : c ∈ lits := hiok
        have n42 : c ≠ 42 := fun q => by subst q; revert hc; decide
        have n63 : c ≠ 63 := fun q => by subst q; revert hc; decide
        have n91 : c ≠ 91 := fun q => by subst q; revert hc; decide
        have nn : ∀ d : Nat, c ≠ d → ([c] == [d]) = false := fun d h => by simpa using h
        refine runs_cons (run_if (b := [c] == [42]) (seq lv (st [42])) (fun h => by rw [nn 42 n42] at h; cases h) fun _ => ?_)
        refine runs_cons (run_if (b := [c] == [63]) (seq lv (st [63])) (fun h => by rw [nn 63 n63] at h; cases h) fun _ => ?_)
        refine runs_cons (run_if (b := [c] == [91]) (seq lv (st [91])) (fun h => by rw [nn 91 n91] at h; cases h) fun _ => ?_)
        refine runs_cons (run_add lv (ev_call (ds := [ds [c]]) (d := ds (escTxt c)) gv (evl_cons lv evl_nil) (by rfl) (spec_escape hc) (by exact (Nat.le_of_ble_eq_true rfl)) (KKtab w) ⟨_, _, rfl, by intro _; rfl⟩) (by rfl) (by simp; omega) (runs_nil (runs_nil (runs_nil (runs_nil ?_)))))
        refine hnext _ ms (has ?_ ⟨rfl, rfl, rfl, rfl, rfl, rfl, rfl, trivial⟩)
        show (Mut.list (acc.map optV ++ [_]) :: ms) = Mut.list ((acc ++ [some (escTxt c)]).map optV) :: ms
        rw [List.map_append]; rfl
      | brk st out =>
        have hb : BrkOk st out := hiok
        refine runs_cons (run_if (b := [91] == [42]) (seq lv (Mine.st [42])) (fun h => absurd h (by decide)) fun _ => ?_)
        refine runs_cons (run_if (b := [91] == [63]) (seq lv (Mine.st [63])) (fun h => absurd h (by decide)) fun _ => ?_)
        refine runs_cons (run_if (b := [91] == [91]) (seq lv (Mine.st [91])) (fun _ => ?_) fun h => absurd h (by decide))
        have hmid : ∀ q, q < st.length + 1 → pat.getD (pre.length + 1 + q) 0 = (st ++ [93]).getD q 0 := fun q hq => by
          have := getD_mid (pre ++ [91]) (st ++ [93]) post (a := q) (by simpa using hq)
          rw [hpt]
          simpa [Item.text] using this
        have hpt2 : pat = (pre ++ [91]) ++ (st ++ [93]) ++ post := by rw [hpt]; simp [Item.text]
        have hplen : pat.length = pre.length + 1 + (st.length + 1) + post.length := by rw [hpt2]; simp; exact (lid [_, _, _] (.a (.v 0) (.a (.a (.v 1) (.a (.v 2) (.n 1))) (.n 1))) (.a (.a (.a (.v 0) (.n 1)) (.a (.v 1) (.n 1))) (.v 2)) rfl)
        have hst0 : (st ++ [93]).getD 0 0 = st.getD 0 0 := by
          have := hb.pos
          simp only [List.getD_eq_getElem?_getD]
          rw [List.getElem?_append_left this]
        have hpos := hb.pos
        refine runs_cons (run_assign (v := .d (dz (pre.length + 1))) lv (by rfl) ?_)
        have nn : ∀ c d : Nat, c ≠ d → ([c] == [d]) = false := fun c d h => by simpa using h
        refine runs_cons (run_if (b := decide (pre.length + 1 < pat.length) && ([(st ++ [93]).getD 0 0] == [33])) (tests_and (nlt lv lv) fun _ => seq (by rw [← hmid 0 (by exact (lin [_] (.a (.n 0) (.n 1)) (.a (.v 0) (.n 1)) .z rfl))]; exact sidx lv lv (by exact (lin [_, _, _, _] (.a (.a (.a (.v 0) (.n 1)) (.n 0)) (.n 1)) (.v 1) (.e 0 1 (.v 1) (.a (.a (.a (.v 0) (.n 1)) (.a (.v 2) (.n 1))) (.v 3)) .z) rfl hplen)) (by omega)) (Mine.st [33])) (fun h => by rw [hst0, nn _ _ hb.ne33, Bool.and_false] at h; cases h) fun _ => runs_nil ?_)
        have hq : ∃ q0 : Nat, q0 ≤ 1 ∧ (q0 = 0 → st.getD 0 0 ≠ 93) ∧ ((st.getD 0 0 == 93) = true → q0 = 1) ∧ ((st.getD 0 0 == 93) = false → q0 = 0) := by
          by_cases h : st.getD 0 0 = 93
          · exact ⟨1, Nat.le_refl _, fun q => absurd q (by decide), fun _ => rfl, fun q => absurd (q.symm.trans (beq_iff_eq.mpr h)) (by decide)⟩
          · exact ⟨0, Nat.zero_le _, fun _ => h, fun q => absurd (beq_iff_eq.mp q) h, fun _ => rfl⟩
        obtain ⟨q0, hq1, hq2, hq3, hq4⟩ := hq
        let B : Nat → State := fun q => ⟨[("j", .d (dz (pre.length + 1 + q))), ("i", .d (dz (pre.length + 1))), ("res", .mu 0), ("add", .bm 0), ("n", .d (dz pat.length)), ("pat", .d (ds pat)), ("STAR", .d .none), ("QUESTION_MARK", .d (ds [46]))], .list (acc.map optV) :: ms⟩
        refine runs_join (B q0) (run_if (b := decide (pre.length + 1 < pat.length) && ([(st ++ [93]).getD 0 0] == [93])) (tests_and (nlt lv lv) fun _ => seq (by rw [← hmid 0 (by exact (lin [_] (.a (.n 0) (.n 1)) (.a (.v 0) (.n 1)) .z rfl))]; exact sidx lv lv (by exact (lin [_, _, _, _] (.a (.a (.a (.v 0) (.n 1)) (.n 0)) (.n 1)) (.v 1) (.e 0 1 (.v 1) (.a (.a (.a (.v 0) (.n 1)) (.a (.v 2) (.n 1))) (.v 3)) .z) rfl hplen)) (by omega)) (Mine.st [93])) (fun h => ?_) fun h => ?_) ?_
        · have e : q0 = 1 := hq3 (by rw [hst0, one_beq] at h; simp only [Bool.and_eq_true] at h; exact h.2)
          subst e
          exact runs_cons (run_assign (v := .d (dz (pre.length + 1 + 1))) (nadd lv (nt 1)) (by rfl) (runs_nil (has rfl ⟨rfl, rfl, rfl, rfl, rfl, rfl, rfl, rfl, trivial⟩)))
        · have e : q0 = 0 := hq4 (by
            rw [hst0, one_beq, decide_eq_true (by exact (lin [_, _, _, _] (.a (.a (.v 0) (.n 1)) (.n 1)) (.v 1) (.e 0 1 (.v 1) (.a (.a (.a (.v 0) (.n 1)) (.a (.v 2) (.n 1))) (.v 3)) .z) rfl hplen)), Bool.true_and] at h; exact h)
          subst e
          exact runs_nil (has rfl ⟨rfl, rfl, rfl, rfl, rfl, rfl, rfl, rfl, trivial⟩)
        refine runs_join (B st.length) (run_whileH (m := fun q : Nat => st.length + 1 - q) (C := B) (P := fun q => q0 ≤ q ∧ q ≤ st.length) (a₀ := q0) (.refl _) ⟨Nat.le_refl _, by exact (lin [_, _] (.v 0) (.v 1) (.s 1 (.a (.n 0) (.n 1)) (.v 1) (.s 1 (.v 0) (.n 1) .z)) rfl hpos hq1)⟩ (t := fun q => decide (pre.length + 1 + q < pat.length) && ([(st ++ [93]).getD q 0] != [93])) (fun q hP => ?_) (fun q hP ht => ?_) (fun q hP ht => ?_)) ?_
        · refine tests_and (nlt lv lv) fun _ => sne ?_ (Mine.st [93])
          rw [← hmid q (by have := hP.2; exact (lin [_, _] (.a (.v 0) (.n 1)) (.a (.v 1) (.n 1)) (.s 1 (.v 0) (.v 1) .z) rfl hP.2))]
          exact sidx lv lv (by have := hP.2; exact (lin [_, _, _, _, _] (.a (.a (.a (.v 0) (.n 1)) (.v 1)) (.n 1)) (.v 2) (.e 0 1 (.v 2) (.a (.a (.a (.v 0) (.n 1)) (.a (.v 3) (.n 1))) (.v 4)) (.s 1 (.v 1) (.v 3) .z)) rfl hplen hP.2)) (by omega)
        · have hne : q ≠ st.length := fun e => by
            subst e
            simp at ht
          exact runs_cons (run_assign (v := .d (dz (pre.length + 1 + q + 1))) (nadd lv (nt 1)) (by rfl) (runs_nil ⟨q + 1, by have := hP.2; exact (lin [_, _, _, _] (.a (.v 0) (.n 1)) (.v 1) (.s 1 (.a (.v 2) (.n 1)) (.a (.v 1) (.v 3)) (.e 1 0 (.a (.v 0) (.a (.v 3) (.n 1))) (.a (.v 2) (.n 1)) .z)) rfl (subx _ _) (Nat.sub_add_cancel (lin [_, _] (.a (.v 0) (.n 1)) (.a (.v 1) (.n 1)) (.s 1 (.v 0) (.v 1) .z) rfl hP.2))), ⟨by have := hP.1; exact (lin [_, _] (.v 0) (.a (.v 1) (.n 1)) (.s 1 (.v 0) (.n 1) .z) rfl hq1), by have := hP.2; lia⟩, has rfl ⟨rfl, rfl, rfl, rfl, rfl, rfl, rfl, rfl, trivial⟩⟩))
        · have e : q = st.length := by
            rcases Nat.lt_or_ge q st.length with hlt' | hge
            · exfalso
              rw [decide_eq_true (by exact (lin [_, _, _, _, _] (.a (.a (.a (.v 0) (.n 1)) (.v 1)) (.n 1)) (.v 2) (.e 0 1 (.v 2) (.a (.a (.a (.v 0) (.n 1)) (.a (.v 3) (.n 1))) (.v 4)) (.s 1 (.v 1) (.v 3) .z)) rfl hplen hP.2)), Bool.true_and] at ht
              have h93 : (st ++ [93]).getD q 0 = 93 := by
                rw [one_bne] at ht
                simpa using ht
              rw [List.getD_eq_getElem?_getD, List.getElem?_append_left hlt', List.getElem?_eq_getElem hlt'] at h93
              have h93' : st[q] = 93 := h93
              rcases Nat.eq_zero_or_pos q with e | e
              · subst e
                have : q0 = 0 := by have := hP.1; exact (Nat.le_antisymm hP.1 (lin [_] (.n 0) (.v 0) .z rfl))
                refine hq2 this ?_
                rw [List.getD_eq_getElem?_getD, List.getElem?_eq_getElem hlt']; exact h93'
              · refine hb.tail ?_
                rw [← h93', ← List.drop_one]
                refine List.mem_iff_getElem.mpr ⟨q - 1, by simp; exact (lin [_, _, _, _] (.a (.v 0) (.n 1)) (.v 1) (.s 1 (.a (.v 2) (.n 1)) (.v 3) (.s 1 (.v 3) (.a (.v 1) (.n 1)) (.e 1 0 (.a (.v 0) (.n 1)) (.v 2) .z))) rfl hlt' (subx _ _) (Nat.sub_add_cancel (lin [_] (.n 1) (.v 0) (.s 1 (.a (.n 0) (.n 1)) (.v 0) .z) rfl e))), ?_⟩
                rw [List.getElem_drop]
                congr 1; exact (Nat.le_antisymm (lin [_, _] (.a (.n 1) (.v 0)) (.v 1) (.e 1 0 (.a (.v 0) (.n 1)) (.v 1) .z) rfl (Nat.sub_add_cancel (lin [_] (.n 1) (.v 0) (.s 1 (.a (.n 0) (.n 1)) (.v 0) .z) rfl e))) (lin [_, _] (.v 0) (.a (.n 1) (.v 1)) (.s 1 (.v 0) (.a (.v 1) (.n 1)) .z) rfl (subx _ _)))
            · have := hP.2; exact (Nat.le_antisymm hP.2 hge)
          rw [e]
          exact runs_nil (.refl _)
        refine runs_cons (run_if (b := decide (pat.length ≤ pre.length + 1 + st.length)) (nge lv lv) (fun h => by
          have h' : pat.length ≤ pre.length + 1 + st.length := by simpa using h
          omega) fun _ => ?_)
        have hstuff : slc pat (some ((pre.length + 1 : Nat) : Int)) (some ((pre.length + 1 + st.length : Nat) : Int)) = st := by
          have := slc_mid2 (pre ++ [91]) (st ++ [93]) post (a := 0) (b := st.length) (Nat.zero_le _) (by simp)
          rw [← hpt2] at this
          have e9 : (pre ++ [91]).length = pre.length + 1 := by simp
          rw [e9, Nat.add_zero] at this
          rw [this]
          simp
        have hsl := hb.len
        refine runs_cons (run_assign (v := .d (ds (slc pat (some ((pre.length + 1 : Nat) : Int)) (some ((pre.length + 1 + st.length : Nat) : Int))))) (ev_slice_str lv (.some lv) (.some lv) (seg_len (by omega))) (by rfl) ?_)
        rw [hstuff]
        let C1 : List Nat → List Mut → State := fun l ms => ⟨[("stuff", .d (ds l)), ("j", .d (dz (pre.length + 1 + st.length))), ("res", .mu 0), ("add", .bm 0), ("n", .d (dz pat.length)), ("pat", .d (ds pat)), ("STAR", .d .none), ("QUESTION_MARK", .d (ds [46]))], .list (acc.map optV) :: ms⟩
        obtain ⟨s1, hs1, hs1b⟩ : ∃ s1, out = subTxt s1 ∧ ((45 ∉ st → s1 = repl 92 [92, 92] st) ∧ (45 ∈ st → ∃ r, chunkLoop st 5 0 1 [] = some r ∧ ((st.drop r.2).isEmpty = true → r.1 ≠ []) ∧ r.2 ≤ st.length ∧ s1 = joinL [45] ((chunksOf st r).map (repl 45 [92, 45])) ∧ (∀ l ∈ chunksOf st r, 92 ∉ l ∧ l ≠ [] ∧ l.length ≤ 501) ∧ (chunksOf st r).length ≤ 10 ∧ r.1.length ≤ 10 ∧
          ∀ k, k + 1 < (chunksOf st r).length → ((chunksOf st r).getD k []).getD (((chunksOf st r).getD k []).length - 1) 0 ≤ ((chunksOf st r).getD (k + 1) []).getD 0 0)) := by
          by_cases h : 45 ∈ st
          · obtain ⟨r, h1, h2, h3, h4, h5, h6, h7, h8⟩ := hb.dash h
            exact ⟨_, h4, fun q => absurd h q, fun _ => ⟨r, h1, h2, h3, rfl, h5, h6, h7, h8⟩⟩
          · exact ⟨_, hb.plain h, fun _ => rfl, fun q => absurd q h⟩
        have hs1l : s1.length ≤ 5000 := by
          have h1 := subTxt_ge s1
          have h2 := hb.olen
          rw [hs1] at h2
          exact (lin [_, _] (.v 0) (.n 5000) (.s 1 (.v 0) (.v 1) (.s 1 (.v 1) (.n 5000) .z)) rfl h1 h2)
        refine runs_cons (run1_mono (Q := fun f S' => match f with | .next => ∃ ms', Has S' (C1 s1 ms') | _ => False) (run_if_notin (a := 45) (b := st) (by decide +kernel) lv (fun h => ?_) fun h => ?_) fun f S' q => ?_)
        · refine runsT_assign (v := .d (ds s1)) ?_ (by rfl) (runs_nil ⟨ms, has rfl ⟨rfl, rfl, rfl, rfl, rfl, rfl, rfl, rfl, trivial⟩⟩)
          rw [hs1b.1 h]
          exact evT_replace (c := 92) (zl := [92, 92]) (evT_of lv) (by decide +kernel) (by decide +kernel) (by decide) (by omega) (by decide)
        · refine runsT_of ?_
          obtain ⟨r, hr1, hr2, hr3, hr4, hr5, hr6, hr7, hr8⟩ := hs1b.2 h
          have hpt3 : pat = (pre ++ [91]) ++ st ++ ([93] ++ post) := by rw [hpt2]; simp
          have e9 : (pre ++ [91]).length = pre.length + 1 := by simp
          have hfnd : ∀ k', fnd pat 45 (pre.length + 1 + k') (pre.length + 1 + st.length) = (fnd st 45 k' st.length).map (pre.length + 1 + ·) := fun k' => by
            have := fnd_mid (pre ++ [91]) st ([93] ++ post) 45 k'
            rw [← hpt3, e9] at this; exact this
          have hsli : ∀ a b : Nat, a ≤ st.length → b ≤ st.length → slc pat (some ((pre.length + 1 + a : Nat) : Int)) (some ((pre.length + 1 + b : Nat) : Int)) = (st.take b).drop a := fun a b ha hb' => by
            have := slc_mid2 (pre ++ [91]) st ([93] ++ post) ha hb'
            rw [← hpt3, e9] at this; exact this
          refine runs_cons (run_assignM (evM_list (vs := []) evl_nil (by simp)) (by rfl) ?_)
          refine runs_cons (run_assign (v := .d (dz (pre.length + 1 + 1))) (ev_ifexp (b := [(st ++ [93]).getD 0 0] == [33]) (seq (by rw [← hmid 0 (by exact (lin [_] (.a (.n 0) (.n 1)) (.a (.v 0) (.n 1)) .z rfl))]; exact sidx lv lv (by exact (lin [_, _, _, _] (.a (.a (.a (.v 0) (.n 1)) (.n 0)) (.n 1)) (.v 1) (.e 0 1 (.v 1) (.a (.a (.a (.v 0) (.n 1)) (.a (.v 2) (.n 1))) (.v 3)) .z) rfl hplen)) (by omega)) (Mine.st [33])) (fun h => by rw [hst0, nn _ _ hb.ne33] at h; cases h) fun _ => nadd lv (nt 1)) (by rfl) ?_)
          let D : Nat × Nat × Nat × List (List Nat) → State := fun a => ⟨[("chunks", .mu (ms.length + 1)), ("k", .d (dz (pre.length + 1 + a.2.2.1))), ("i", .d (dz (pre.length + 1 + a.2.1))), ("j", .d (dz (pre.length + 1 + st.length))), ("res", .mu 0), ("add", .bm 0), ("n", .d (dz pat.length)), ("pat", .d (ds pat)), ("STAR", .d .none), ("QUESTION_MARK", .d (ds [46]))], .list (acc.map optV) :: (ms ++ [.list (chv a.2.2.2)])⟩
          let Ex : List (List Nat) → State := fun l => ⟨[("chunks", .mu (ms.length + 1)), ("i", .d (dz (pre.length + 1 + r.2))), ("j", .d (dz (pre.length + 1 + st.length))), ("res", .mu 0), ("add", .bm 0), ("n", .d (dz pat.length)), ("pat", .d (ds pat)), ("STAR", .d .none), ("QUESTION_MARK", .d (ds [46]))], .list (acc.map optV) :: (ms ++ [.list (chv l)])⟩
          refine runs_join (Ex r.1) (run_whileH (m := fun a => a.1) (C := D) (P := fun a => chunkLoop st a.1 a.2.1 a.2.2.1 a.2.2.2 = some r ∧ a.2.1 ≤ st.length ∧ a.2.2.2.length + a.1 ≤ 5) (a₀ := (5, 0, 1, [])) (has rfl ⟨rfl, rfl, rfl, rfl, rfl, rfl, rfl, rfl, rfl, rfl, trivial⟩) ⟨hr1, Nat.zero_le _, Nat.le_refl _⟩ (t := fun _ => true) (fun a hP => tests_of ev_bool truthy_bool') (fun a hP ht => ?_) (fun a hP ht => by cases ht)) ?_
          · obtain ⟨f, i', k', acc'⟩ := a
            obtain ⟨hP1, hP2, hP3⟩ := hP
            simp only at hP1 hP2 hP3
            cases f with
            | zero => simp [chunkLoop] at hP1
            | succ f =>
              refine runs_cons (run_assign (v := .d (.int (fndI pat 45 (pre.length + 1 + k') (pre.length + 1 + st.length)))) (ev_find4 lv (Mine.st [45]) lv lv (by exact (lin [_, _, _, _] (.a (.a (.v 0) (.n 1)) (.v 1)) (.v 2) (.e 0 1 (.v 2) (.a (.a (.a (.v 0) (.n 1)) (.a (.v 1) (.n 1))) (.v 3)) .z) rfl hplen))) (by rfl) ?_)
              have hfi : fndI pat 45 (pre.length + 1 + k') (pre.length + 1 + st.length) = (match fnd st 45 k' st.length with | some q => ((pre.length + 1 + q : Nat) : Int) | none => -1) := by
                unfold fndI
                rw [hfnd]
                cases fnd st 45 k' st.length <;> rfl
              rw [hfi]
              unfold chunkLoop at hP1
              cases hq : fnd st 45 k' st.length with
              | none =>
                rw [hq] at hP1
                cases hP1
                refine runs_cons (run_if (b := decide ((-1 : Int) < 0)) (tests_cmp lv ev_int op_lt_int) (fun _ => ?_) fun h => absurd h (by decide))
                exact runs_cons (run_brk (has rfl ⟨rfl, rfl, rfl, rfl, rfl, rfl, rfl, rfl, rfl, trivial⟩))
              | some q =>
                rw [hq] at hP1
                have hqlt := fnd_lt hq
                simp only at hP1 ⊢
                refine runs_cons (run_if (b := decide (((pre.length + 1 + q : Nat) : Int) < 0)) (tests_cmp lv ev_int op_lt_int) (fun h => by
                  have := of_decide_eq_true h; omega) fun _ => runs_nil ?_)
                refine runs_cons (run_append (l := chv acc') lv (evM_of (ev_slice_str lv (.some lv) (.some lv) (seg_len (by omega)))) mget mget (seg_len (by simp; exact (lin [_, _] (.v 0) (.n 100000) (.s 1 (.a (.v 0) (.a (.v 1) (.n 1))) (.n 5) .z) rfl hP3))) ?_)
                refine runs_cons (run_assign (v := .d (dz (pre.length + 1 + q + 1))) (nadd lv (nt 1)) (by rfl) ?_)
                refine runs_cons (run_assign (v := .d (dz (pre.length + 1 + q + 3))) (nadd lv (nt 3)) (by rfl) (runs_nil ?_))
                refine ⟨(f, q + 1, q + 3, acc' ++ [(st.take q).drop i']), Nat.lt_succ_self f, ⟨hP1, by simp only; exact hqlt.2, by simp; exact (lin [_, _] (.a (.a (.v 0) (.n 1)) (.v 1)) (.n 5) (.s 1 (.a (.v 0) (.a (.v 1) (.n 1))) (.n 5) .z) rfl hP3)⟩, has ?_ ⟨rfl, rfl, rfl, rfl, rfl, rfl, rfl, rfl, rfl, rfl, trivial⟩⟩
                show (Mut.list (acc.map optV) :: (ms ++ [Mut.list (chv acc')])).set (ms.length + 1) _ = _
                rw [mset]
                show Mut.list (acc.map optV) :: (ms ++ [Mut.list (chv acc' ++ [V.d (ds (slc pat (some ((pre.length + 1 + i' : Nat) : Int)) (some ((pre.length + 1 + q : Nat) : Int))))])]) = _
                rw [hsli i' q hP2 (by exact (lin [_, _] (.v 0) (.v 1) (.s 1 (.a (.v 0) (.n 1)) (.v 1) .z) rfl hqlt.2))]
                simp [chv, D]
          · refine runs_cons (run_assign (v := .d (ds (st.drop r.2))) ?_ (by rfl) ?_)
            · have e := hsli r.2 st.length hr3 (Nat.le_refl _)
              rw [List.take_length] at e
              rw [← e]; exact ev_slice_str lv (.some lv) (.some lv) (seg_len (by omega))
            generalize hcs : chunksOf st r = cs at hr4 hr5 hr6 hr8
            have hrl : (st.drop r.2).isEmpty = true → 0 < r.1.length := fun he => by
              rcases Nat.eq_zero_or_pos r.1.length with q | q
              · exact absurd (List.length_eq_zero_iff.mp q) (hr2 he)
              · exact q
            refine runs_join (Ex cs) (run_if (b := !(st.drop r.2).isEmpty) (tests_of lv (truthy_str' (seg_len (by simp; exact (lin [_, _] (.v 0) (.a (.n 100000) (.v 1)) (.s 1 (.v 0) (.n 500) .z) rfl hsl))))) (fun hq => ?_) fun hq => ?_) ?_
            · have hq' : (st.drop r.2).isEmpty = false := by simpa using hq
              refine runs_cons (run_append (l := chv r.1) lv (evM_of lv) mget mget (seg_len (by simp; omega)) (runs_nil (has ?_ ⟨rfl, rfl, rfl, rfl, rfl, rfl, rfl, rfl, rfl, trivial⟩)))
              show (Mut.list (acc.map optV) :: (ms ++ [Mut.list (chv r.1)])).set (ms.length + 1) _ = _
              rw [mset, ← hcs]
              unfold chunksOf
              rw [hq']
              simp [chv, Ex]
            · have hq' : (st.drop r.2).isEmpty = true := by simpa using hq
              have hrl := hrl hq'
              have hlast : (chv r.1)[(chv r.1).length - 1]? = some (.d (ds (r.1.getD (r.1.length - 1) []))) := by
                rw [List.length_map, List.getElem?_map, getD_some [] (show r.1.length - 1 < r.1.length by exact (lin [_, _] (.a (.v 0) (.n 1)) (.v 1) (.e 1 0 (.a (.v 0) (.n 1)) (.v 1) .z) rfl (Nat.sub_add_cancel (lin [_] (.n 1) (.v 0) (.s 1 (.a (.n 0) (.n 1)) (.v 0) .z) rfl hrl))))]; rfl
              have hll : (r.1.getD (r.1.length - 1) [] ++ [45]).length ≤ 501 := by
                refine (hr5 _ ?_).2.2
                rw [← hcs]
                unfold chunksOf
                rw [hq']
                refine List.mem_iff_getElem.mpr ⟨r.1.length - 1, by simp; exact (lin [_, _] (.a (.v 0) (.n 1)) (.v 1) (.e 1 0 (.a (.v 0) (.n 1)) (.v 1) .z) rfl (Nat.sub_add_cancel (lin [_] (.n 1) (.v 0) (.s 1 (.a (.n 0) (.n 1)) (.v 0) .z) rfl hrl))), by simp⟩
              refine runs_cons (run_augLast (l := chv r.1) (x := r.1.getD (r.1.length - 1) []) (y := [45]) lv (Mine.st [45]) mget hlast (by simp; omega) (by simp at hll ⊢; omega) (runs_nil (has ?_ ⟨rfl, rfl, rfl, rfl, rfl, rfl, rfl, rfl, rfl, trivial⟩)))
              show (Mut.list (acc.map optV) :: (ms ++ [Mut.list (chv r.1)])).set (ms.length + 1) _ = _
              rw [mset, ← hcs]
              unfold chunksOf
              rw [hq']
              show _ = Mut.list (acc.map optV) :: (ms ++ [Mut.list (chv _)])
              simp [chv, List.map_set]
            refine runs_freeze (k := ms.length + 1) (ds := cs.map ds) (by
              show (Mut.list (acc.map optV) :: (ms ++ [Mut.list (chv cs)]))[ms.length + 1]? = _
              rw [mget]
              simp [chv]) ?_
            have hcl : 0 < cs.length := by
              rw [← hcs]; unfold chunksOf
              split
              · rename_i he; rw [List.length_set]; exact hrl he
              · simp
            let Fz : List Mut → State := fun ms2 => ⟨[("chunks", .d (.list (cs.map ds))), ("j", .d (dz (pre.length + 1 + st.length))), ("res", .mu 0), ("add", .bm 0), ("n", .d (dz pat.length)), ("pat", .d (ds pat)), ("STAR", .d .none), ("QUESTION_MARK", .d (ds [46]))], .list (acc.map optV) :: ms2⟩
            obtain ⟨ms2, hF⟩ : ∃ ms2, Has ((Ex cs).freeze (ms.length + 1) (cs.map ds)) (Fz ms2) := by
              refine ⟨((ms ++ [Mut.list (chv cs)]).map (Mut.fz (ms.length + 1) (cs.map ds))).set ms.length .dead, has ?_ ⟨?_, rfl, ?_, rfl, rfl, rfl, rfl, rfl, trivial⟩⟩
              · show (Mut.fz (ms.length + 1) (cs.map ds) (.list (acc.map optV)) :: _) = _
                rw [fz_opt]
              · show some (V.fz (ms.length + 1) (cs.map ds) (.mu (ms.length + 1))) = _
                simp [V.fz]
              · show some (V.fz (ms.length + 1) (cs.map ds) (.mu 0)) = _
                simp [V.fz]
            refine hF.runs ?_
            have hclen : (cs.map ds).length = cs.length := List.length_map ..
            refine runs_cons (run_forH (List.range (cs.length - 1)) (fun i => dz (cs.length - 1 - i)) (fun d => [("k", d)]) (fun _ => Fz ms2) (fun _ => True) ?_ (fun i _ => binds_name (by rfl)) (.refl _) trivial (fun i j hi _ => ?_) fun _ => ?_)
            · rw [← rngItems_down]
              refine src_of (di := .rng ((cs.length - 1 : Nat) : Int) 0 (-1)) (ev_tcall (ds := [.int ((cs.length - 1 : Nat) : Int), dz 0, .int (-1)]) bv (evl_cons ?_ (evl_cons (nt 0) (evl_cons ev_neg evl_nil))) (bc_range3 (by decide) (by decide))) (iters_range rangeSize_down ?_)
              · have e : ((cs.length - 1 : Nat) : Int) = ((cs.map ds).length : Int) - 1 := by rw [hclen]; grind
                rw [e]
                exact ev_binop (llen bv lv (by rw [hclen]; omega)) ev_int op_sub_int
              · exact small_down (by exact (lin [_, _] (.a (.v 0) (.n 1)) (.n 100000) (.s 1 (.v 1) (.n 10) (.s 1 (.v 0) (.v 1) .z)) rfl hr6 (Nat.sub_le _ _)))
            · have hi' : i < cs.length - 1 := by
                have := (List.getElem?_eq_some_iff.mp hi).1
                simpa using this
              have hj : j = i := by
                rw [List.getElem?_range hi'] at hi; cases hi; rfl
              subst hj
              obtain ⟨t, ht'⟩ : ∃ t, cs.length - 1 - j = t + 1 := ⟨cs.length - 1 - j - 1, by exact (Nat.le_antisymm (lin [_, _] (.v 0) (.a (.v 1) (.n 1)) (.s 1 (.v 0) (.a (.v 1) (.n 1)) .z) rfl (subx _ _)) (lin [_, _] (.a (.v 0) (.n 1)) (.v 1) (.e 1 0 (.a (.v 0) (.n 1)) (.v 1) .z) rfl (Nat.sub_add_cancel (lin [_, _, _] (.n 1) (.v 0) (.s 1 (.a (.v 1) (.n 1)) (.v 2) (.s 1 (.v 2) (.a (.v 0) (.v 1)) .z)) rfl hi' (subx _ _)))))⟩
              rw [ht']
              have ht1 : t + 1 < cs.length := by exact (lin [_, _, _, _] (.a (.a (.v 0) (.n 1)) (.n 1)) (.v 1) (.e 0 1 (.v 2) (.a (.v 0) (.n 1)) (.s 1 (.v 2) (.v 3) (.e 1 0 (.a (.v 3) (.n 1)) (.v 1) .z))) rfl ht' (Nat.sub_le _ _) (Nat.sub_add_cancel (lin [_] (.n 1) (.v 0) (.s 1 (.a (.n 0) (.n 1)) (.v 0) .z) rfl hcl)))
              have hm1 : cs.getD t [] ∈ cs := List.mem_of_getElem? (getD_some [] (by exact (lin [_, _] (.a (.v 0) (.n 1)) (.v 1) (.s 1 (.a (.a (.v 0) (.n 1)) (.n 1)) (.v 1) .z) rfl ht1)))
              have hm2 : cs.getD (t + 1) [] ∈ cs := List.mem_of_getElem? (getD_some [] (by omega))
              obtain ⟨_, q1, q2⟩ := hr5 _ hm1
              obtain ⟨_, q3, q4⟩ := hr5 _ hm2
              have p1 : 0 < (cs.getD t []).length := List.length_pos_iff.mpr q1
              have p2 : 0 < (cs.getD (t + 1) []).length := List.length_pos_iff.mpr q3
              have hord := hr8 t ht1
              have hlt1 : (decide ((sl [(cs.getD (t + 1) []).getD 0 0]).cps.toList < (sl [(cs.getD t []).getD ((cs.getD t []).length - 1) 0]).cps.toList)) = false := by
                refine decide_eq_false fun q => ?_
                have q' : [(cs.getD (t + 1) []).getD 0 0] < [(cs.getD t []).getD ((cs.getD t []).length - 1) 0] := q
                rw [List.cons_lt_cons_iff] at q'
                rcases q' with q' | ⟨_, q'⟩
                · exact (lif [_, _] (.s 1 (.v 0) (.v 1) (.s 1 (.a (.v 1) (.n 1)) (.v 0) .z)) rfl hord q')
                · exact absurd q' (by simp)
              refine runs_cons (run_if (b := decide ((sl [(cs.getD (t + 1) []).getD 0 0]).cps.toList < (sl [(cs.getD t []).getD ((cs.getD t []).length - 1) 0]).cps.toList)) (tests_cmp (ev_sub (lidx (j := t) (d := ds (cs.getD t [])) lv ?_ (by rw [hclen]; exact (lin [_, _] (.a (.v 0) (.n 1)) (.v 1) (.s 1 (.a (.a (.v 0) (.n 1)) (.n 1)) (.v 1) .z) rfl ht1)) (by rw [List.getElem?_map, getD_some [] (by exact (lin [_, _] (.a (.v 0) (.n 1)) (.v 1) (.s 1 (.a (.a (.v 0) (.n 1)) (.n 1)) (.v 1) .z) rfl ht1))]; rfl) (by rw [hclen]; omega)) ev_neg (sub_str (seqIndex_last p1) (getD_some 0 (by exact (lin [_, _] (.a (.v 0) (.n 1)) (.v 1) (.e 1 0 (.a (.v 0) (.n 1)) (.v 1) .z) rfl (Nat.sub_add_cancel (lin [_] (.n 1) (.v 0) (.s 1 (.a (.n 0) (.n 1)) (.v 0) .z) rfl p1))))) (seg_len (by omega)) (by intro _ _ _ _; with_unfolding_all rfl))) (sidx (l := cs.getD (t + 1) []) (lidx (j := t + 1) (d := ds (cs.getD (t + 1) [])) lv lv (by rw [hclen]; omega) (by rw [List.getElem?_map, getD_some [] (by omega)]; rfl) (by rw [hclen]; omega)) (nt 0) p2 (by omega)) op_gt_str) (fun h => by rw [hlt1] at h; cases h) fun _ => runs_nil (runs_nil ⟨trivial, has rfl ⟨rfl, rfl, rfl, rfl, rfl, rfl, rfl, rfl, trivial⟩⟩))
              have e : dz t = .int (((t + 1 : Nat) : Int) - 1) := by show Mine.D.int _ = Mine.D.int _; congr 1; simp
              rw [e]
              exact ev_binop lv ev_int op_sub_int
            · refine runs_nil ?_
              have hsum := joinL_sum [45] (cs.map (repl 45 [92, 45]))
              rw [← hr4] at hsum
              refine runs_cons (run_assign (v := .d (ds s1)) (by rw [hr4]; exact ev_join_gen (n := 1) (by rfl) (by rfl) (by rfl) (fun l hl => (hr5 l hl).1) (by omega) (fun l hl => by have := (hr5 l hl).2.2; omega) (by exact (lin [_, _, _] (.a (.v 0) (.v 1)) (.n 1000000) (.s 1 (.v 2) (.n 5000) (.s 1 (.v 1) (.n 10) (.s 1 (.v 0) (.v 2) .z))) rfl hs1l hr6 hsum))) (by rfl) (runs_nil ⟨ms2, has rfl ⟨rfl, rfl, rfl, rfl, rfl, rfl, rfl, rfl, trivial⟩⟩))
        · cases f with
          | next =>
            obtain ⟨ms', hH⟩ := q
            refine hH.runs ?_
            have hol := hb.olen
            have hop := hb.opos
            refine runs_cons (run_assign (v := .d (ds out)) (by rw [hs1]; exact ev_sub_lam (n := 0) (by decide +kernel) (by rfl) gv lv (by omega)) (by rfl) ?_)
            refine runs_cons (run_assign (v := .d (dz (pre.length + 1 + st.length + 1))) (nadd lv (nt 1)) (by rfl) ?_)
            have ho : out.isEmpty = false := by cases out with | nil => cases hop | cons _ _ => rfl
            refine runs_cons (run_if (b := !(!out.isEmpty)) (tests_not (tests_of lv (truthy_str' (seg_len (by omega))))) (fun h => by rw [ho] at h; cases h) fun _ => ?_)
            have hne : (out == [33]) = false := by
              cases hq : out == [33] with
              | false => rfl
              | true =>
                have := hb.o33
                rw [beq_iff_eq.mp hq] at this
                exact absurd rfl this
            refine runs_cons (run_if (b := out == [33]) (seq lv (Mine.st [33])) (fun h => by rw [hne] at h; cases h) fun _ => ?_)
            refine runs_cons (run_if (b := [out.getD 0 0] == [33]) (seq (sidx lv (nt 0) hop (by omega)) (Mine.st [33])) (fun h => by rw [nn _ _ hb.o33] at h; cases h) fun _ => ?_)
            have htup : [ds [94], ds [91]].any (eqD · (ds [out.getD 0 0])) = false := by
              have e1 : eqD (ds [94]) (ds [out.getD 0 0]) = false := by
                show (sl [94] == sl [out.getD 0 0]) = false
                rw [sl_beq]; exact nn _ _ (Ne.symm hb.o94)
              have e2 : eqD (ds [91]) (ds [out.getD 0 0]) = false := by
                show (sl [91] == sl [out.getD 0 0]) = false
                rw [sl_beq]; exact nn _ _ (Ne.symm hb.o91)
              simp only [List.any_cons, List.any_nil, e1, e2, Bool.or_self]
            refine runs_cons (run_if (b := [ds [94], ds [91]].any (eqD · (ds [out.getD 0 0]))) (tests_cmp (sidx lv (nt 0) hop (by omega)) (ev_tuple (ds := [ds [94], ds [91]]) (evl_cons (Mine.st [94]) (evl_cons (Mine.st [91]) evl_nil)) (seg_len (by simp))) (op_in_tuple (by intro d hd; simp only [List.mem_cons, List.not_mem_nil, or_false] at hd; rcases hd with rfl | rfl <;> rfl))) (fun h => by rw [htup] at h; cases h) fun _ => runs_nil (runs_nil ?_))
            refine runs_cons (run_add lv (ev_fstr3 (Mine.st [91]) (ev_fmt lv (by omega)) (Mine.st [93]) (by simp; exact (lin [_] (.a (.n 1) (.v 0)) (.n 99999) (.s 1 (.v 0) (.n 5000) .z) rfl hol))) (by rfl) (by simp; omega) (runs_nil (runs_nil (runs_nil (runs_nil (runs_nil (runs_nil (runs_nil ?_))))))))
            refine hnext _ ms' (has ?_ ⟨rfl, rfl, ?_, rfl, rfl, rfl, rfl, trivial⟩)
            · show (Mut.list (acc.map optV ++ [_]) :: ms') = Mut.list ((acc ++ [some (91 :: (out ++ [93]))]).map optV) :: ms'
              rw [List.map_append]; rfl
            · show some (V.d (dz (pre.length + 1 + st.length + 1))) = some (V.d (dz (pre.length + (91 :: (st ++ [93])).length)))
              congr 3
              simp; exact (lid [_, _] (.a (.a (.a (.v 0) (.n 1)) (.v 1)) (.n 1)) (.a (.v 0) (.a (.a (.v 1) (.n 1)) (.n 1))) rfl)
          | brk => exact q.elim
          | cont => exact q.elim
          | ret d => exact q.elim
    · obtain ⟨k, ms⟩ := a
      have hk : k ≤ its.length := hP
      have hnl : ¬ (textOf (its.take k)).length < pat.length := by simpa using ht
      have e : k = its.length := by
        rcases Nat.lt_or_ge k its.length with q | q
        · exfalso
          have e1 : textOf its = textOf (its.take k) ++ textOf (its.drop k) := by rw [← textOf_app, List.take_append_drop]
          have e2 : its.drop k = its[k] :: its.drop (k + 1) := List.drop_eq_getElem_cons q
          have h0 : 0 < (its[k]).text.length := by cases its[k] <;> simp [Item.text]
          rw [← hpat, e1, e2, List.length_append] at hnl
          have : (textOf (its[k] :: its.drop (k + 1))).length = (its[k]).text.length + (textOf (its.drop (k + 1))).length := by
            show (List.flatMap _ _).length = _
            rw [List.flatMap_cons, List.length_append]; rfl
          exact (lif [_, _, _, _] (.s 1 (.a (.n 0) (.n 1)) (.v 0) (.e 0 1 (.v 1) (.a (.v 0) (.v 2)) (.s 1 (.a (.v 3) (.v 1)) (.v 3) .z))) rfl h0 this (nlt' hnl))
        · exact (Nat.le_antisymm hP q)
      subst e
      refine runs_nil ⟨ms, ?_⟩
      show Has (trS pat (textOf (its.take its.length)).length (partsOf (its.take its.length)) ms) _
      rw [List.take_length, hpat]
      exact .refl _
    · cases f with
      | next =>
        obtain ⟨ms, hH⟩ := q
        refine hH.runs ?_
        refine runs_cons (run_assert (neq_self lv lv) ?_)
        refine runs_freeze (k := 0) (ds := (partsOf its).map optD) (by
          show some (Mut.list ((partsOf its).map optV)) = _
          rw [List.map_map]; rfl) ?_
        exact runs_cons (run_ret lv rfl)
      | brk => exact q.elim
      | cont => exact q.elim
      | ret d => exact q.elim
end
end Mine
end

-- the text M38
section
open PySem PySem.Calls PySem.W PyProof.Rows
set_option maxRecDepth 100000
namespace Mine

/-! an iterator over a list that stands -/
structure Gst (c : Cx) (G : PH) (ad : List Addr) (S : State) (s : Shared) (it a : Addr) (os : List D) (p : Nat) : Prop where
  own : ¬ Own c ad S it
  g : G it = none
  pos : s.heap.IsListIter it a p
  lst : ∃ o vs n, G a = some o ∧ o.cls = .type "list" ∧ o.data = .seq vs n ∧ IsL G os vs.toList
  fresh : it ∈ c.X ∨ New c.s₀.heap it
  net : it ≠ tabA

section
variable {K : Frag} {c : Cx} {G G' : PH} {ad ad' : List Addr} {S S' : State} {s s' : Shared} {it a : Addr} {os : List D} {p p' : Nat}

theorem Gst.there (x : Gst c G ad S s it a os p) : ∃ o, s.heap.get? it = some o := let ⟨o, e, _⟩ := x.pos; ⟨o, e⟩
theorem Gst.step (x : Gst c G ad S s it a os p) (t : Step c G ad S s G' ad' S' s') : Gst c G' ad' S' s' it a os p := by
  obtain ⟨o, e, hc, hd⟩ := x.pos
  obtain ⟨ol, vs, n, l1, l2, l3, l4⟩ := x.lst
  refine ⟨fun q => ?_, ?_, ⟨o, t.kept it o e x.own (fun q => nomatch q), hc, hd⟩, ⟨ol, vs, n, t.le _ _ l1, l2, l3, l4.mono t.le⟩, x.fresh, x.net⟩
  · rcases t.own it q with q | q | q
    · exact x.own q
    · cases q
    · exact q.ne e rfl
  · cases q : G' it with
    | none => rfl
    | some o' =>
      rcases t.fr it o' q with z | z | z | z
      · rw [x.g] at z; cases z
      · exact (x.own z).elim
      · cases z
      · exact absurd rfl (z.ne e)
theorem Gst.vars (x : Gst c G ad S s it a os p) (h : S'.muts = S.muts) : Gst c G ad S' s it a os p :=
  { x with own := fun q => x.own (q.vars h) }
theorem stp_w {wr : List Addr} (t : Step c G ad S s G' ad' S' s') : Stp wr c G ad S s G' ad' S' s' := Stp.mono t fun b hb => nomatch hb

/-- the iterator is turned -/
theorem St.iter (C : CxOk K c) (st : St c G ad S s) (x : Gst c G ad S s it a os p) {h' : Heap} {t : Nat} (hs : Heap.SameBut it s.heap h') (hp : h'.IsListIter it a p') :
    St c G ad S { s with heap := h', toks := t } ∧ Gst c G ad S { s with heap := h', toks := t } it a os p' ∧ Stp [it] c G ad S s G ad S { s with heap := h', toks := t } := by
  have ke : ∀ b o, b ∉ [it] → s.heap.get? b = some o → h'.get? b = some o := fun b o hb e => (hs.2 b (fun q => hb (List.mem_singleton.mpr q))).trans e
  have te : ∃ o, h'.get? it = some o := let ⟨o, e, _⟩ := hp; ⟨o, e⟩
  refine ⟨?_, ⟨x.own, x.g, hp, x.lst, x.fresh, x.net⟩, Stp.walk ke⟩
  rcases x.fresh with h | h
  · have g : Grow [it] G s G { s with heap := h', toks := t } := by
      refine ⟨ke, fun b o e => ?_, fun _ _ e => e, fun b o e => ke b o (fun q => by rw [List.mem_singleton.mp q, x.g] at e; cases e) (st.sub b o e), fun b o e => .inl e, fun ti => ti.at' fun o e => ke _ _ (fun q => x.net (List.mem_singleton.mp q).symm) e, rfl, id⟩
      by_cases hb : b = it
      · subst hb; exact te
      · exact ⟨o, ke b o (fun q => hb (List.mem_singleton.mp q)) e⟩
    exact st.grow C g fun b hb => by rw [List.mem_singleton.mp hb]; exact h
  · exact st.walk C (wr := [it]) (fun b hb => by rw [List.mem_singleton.mp hb]; exact ⟨h, x.g, x.own⟩) ke
end

noncomputable def PostI (c : Cx) (G : PH) (ad : List Addr) (S : State) (s : Shared) (it a : Addr) (os : List D) (Q : Fl → State → Nat → Prop) (f : Flow) (s' : Shared) : Prop :=
  match f with
  | .next => ∃ G' ad' S' p', St c G' ad' S' s' ∧ Stp [it] c G ad S s G' ad' S' s' ∧ Gst c G' ad' S' s' it a os p' ∧ Q .next S' p'
  | .ret v => ∃ G' ad' S' d p', St c G' ad' S' s' ∧ Stp [it] c G ad S s G' ad' S' s' ∧ Gst c G' ad' S' s' it a os p' ∧ Is G' d v ∧ Q (.ret d) S' p'
  | _ => False
theorem PostI.step {c : Cx} {G G₁ : PH} {ad ad₁ : List Addr} {S S₁ : State} {s s₁ : Shared} {it a : Addr} {os : List D} {Q : Fl → State → Nat → Prop} {f : Flow} {s' : Shared} (t : Stp [it] c G ad S s G₁ ad₁ S₁ s₁) (h : PostI c G₁ ad₁ S₁ s₁ it a os Q f s') : PostI c G ad S s it a os Q f s' := by
  cases f with
  | next => obtain ⟨G', ad', S', p, x, y, z, q⟩ := h; exact ⟨G', ad', S', p, x, t.trans y, z, q⟩
  | ret v => obtain ⟨G', ad', S', d, p, x, y, z, u, q⟩ := h; exact ⟨G', ad', S', d, p, x, t.trans y, z, u, q⟩
  | brk => exact h.elim
  | cont => exact h.elim

noncomputable def RunsI (prog : Program) (w : World) (K : Frag) (n : Nat) (sx : Sx) (S : State) (it a : Addr) (os : List D) (p : Nat) (sts : List Stmt) (Q : Fl → State → Nat → Prop) : Prop :=
  ∀ (A : Around) (c : Cx) (G : PH) (ad : List Addr) (s : Shared), Room A n → CxOk K c → c.sx = sx → St c G ad S s → Gst c G ad S s it a os p →
    wpAny (model prog w) A (execs sts c.env) (PostI c G ad S s it a os Q) Nope s
noncomputable def ThnI (prog : Program) (w : World) (K : Frag) (n : Nat) (sx : Sx) (it a : Addr) (os : List D) (rest : List Stmt) (Q : Fl → State → Nat → Prop) (f : Fl) (S' : State) (p' : Nat) : Prop :=
  match f with
  | .next => RunsI prog w K n sx S' it a os p' rest Q
  | f => Q f S' p'
noncomputable def Run1I (prog : Program) (w : World) (K : Frag) (n : Nat) (sx : Sx) (S : State) (it a : Addr) (os : List D) (p : Nat) (st : Stmt) (Q : Fl → State → Nat → Prop) : Prop :=
  ∀ (A : Around) (c : Cx) (G : PH) (ad : List Addr) (s : Shared), Room A n → CxOk K c → c.sx = sx → St c G ad S s → Gst c G ad S s it a os p →
    wpAny (model prog w) A (exec st c.env) (PostI c G ad S s it a os Q) Nope s
section
variable {prog : Program} {w : World} {K : Frag} {n : Nat} {sx : Sx} {S : State} {it a : Addr} {os : List D} {p : Nat} {Q : Fl → State → Nat → Prop}

theorem runsI_nil (h : Q .next S p) : RunsI prog w K n sx S it a os p [] Q := by
  intro A c G ad s R C hsc st g
  exact wpAny_execs_nil ⟨G, ad, S, p, st, .refl .., g, h⟩
theorem runsI_cons {st : Stmt} {rest : List Stmt} (h : Run1I prog w K n sx S it a os p st (ThnI prog w K n sx it a os rest Q)) : RunsI prog w K n sx S it a os p (st :: rest) Q := by
  intro A c G ad s R C hsc x g
  refine wpAny_execs_cons (wpAny_mono (h A c G ad s R C hsc x g) (fun f s' q => ?_) fun _ _ f => f)
  cases f with
  | next =>
    obtain ⟨G', ad', S', p', y, t, g', q⟩ := q
    exact wpAny_mono (q A c G' ad' s' R C hsc y g') (fun _ _ r => r.step t) fun _ _ f => f
  | brk => exact q.elim
  | cont => exact q.elim
  | ret v => exact q
theorem runI_pure {st : Stmt} (h : Run1 prog w K n sx S st (fun f S' => match f with | .next => Q .next S' p | .ret d => Q (.ret d) S' p | _ => False)) : Run1I prog w K n sx S it a os p st Q := by
  intro A c G ad s R C hsc x g
  refine wpAny_mono (h A c G ad s R C hsc x) (fun f s' q => ?_) fun _ _ f => f
  cases f with
  | next => obtain ⟨G', ad', S', y, t, q⟩ := q; exact ⟨G', ad', S', p, y, stp_w t, g.step t, q⟩
  | brk => obtain ⟨G', ad', S', y, t, q⟩ := q; exact q.elim
  | cont => obtain ⟨G', ad', S', y, t, q⟩ := q; exact q.elim
  | ret v => obtain ⟨G', ad', S', d, y, t, z, q⟩ := q; exact ⟨G', ad', S', d, p, y, stp_w t, g.step t, z, q⟩
theorem runsI_weaken {sts : List Stmt} {S' : State} (h : Has S S') (k : RunsI prog w K n sx S' it a os p sts Q) : RunsI prog w K n sx S it a os p sts Q := by
  intro A c G ad s R C hsc x g
  have e : S' = { S with vars := S'.vars } := by have := h.muts; cases S'; cases S; simp_all
  have y : St c G ad S' s := by rw [e]; exact x.weaken h.get
  have y2 : Stp [it] c G ad S s G ad S' s := ⟨fun _ _ e _ _ => e, fun b q => .inl (q.vars h.muts.symm), fun _ _ e => e, fun _ _ e => .inl e⟩
  exact wpAny_mono (k A c G ad s R C hsc y (g.vars h.muts.symm)) (fun _ _ p => p.step y2) fun _ _ f => f
/-- a loop -/
theorem runI_while {test : Expr} {body orelse : List Stmt} {pos : Pos} (J : Nat → State → Nat → Prop) {k₀ : Nat} (h0 : J k₀ S p)
    (turn : ∀ (k : Nat) (S' : State) (p' : Nat), J k S' p' → ∃ b, Tests prog w K n sx S' test b ∧ (b = true → RunsI prog w K n sx S' it a os p' body (fun f S'' p'' => match f with | .next => ∃ m, m < k ∧ J m S'' p'' | .ret d => Q (.ret d) S'' p'' | _ => False)) ∧ (b = false → RunsI prog w K n sx S' it a os p' orelse Q)) : Run1I prog w K n sx S it a os p (.While test body orelse pos) Q := by
  intro A c G ad s R C hsc st g
  refine wpAny_While ?_
  refine codeAny_mono (R := fun r s' => ∃ f, r = .ok f ∧ PostI c G ad S s it a os Q f s') ?_ (fun r s' h => by obtain ⟨f, rfl, p⟩ := h; exact p)
  refine codeAny_whileLoop (fun k s' => ∃ G' ad' S' p', J k S' p' ∧ St c G' ad' S' s' ∧ Gst c G' ad' S' s' it a os p' ∧ Stp [it] c G ad S s G' ad' S' s') ?_ k₀ ⟨G, ad, S, p, h0, st, g, .refl ..⟩
  rintro k s' ⟨G', ad', S', p', hJ, st', g', t⟩
  obtain ⟨b, ht, h1, h2⟩ := turn k S' p' hJ
  refine nope_any (wpg (ht A c G' ad' s' R C hsc st') fun y s₁ G₁ g₁ e₁ => ?_)
  subst e₁
  have st₁ := st'.step C g₁
  have t₁ : Step c G' ad' S' s' G₁ ad' S' s₁ := g₁.step
  have tt := t.trans (stp_w t₁)
  have gg := g'.step t₁
  cases y with
  | true =>
    simp only [if_true]
    refine nope_any (wpAny_mono (h1 rfl A c G₁ ad' s₁ R C hsc st₁ gg) (fun f s₅ q => ?_) fun _ _ f => f)
    have q := q.step tt
    cases f with
    | next => obtain ⟨G₅, ad₅, S₅, p₅, st₅, t₅, g₅, m, hm, q⟩ := q; exact ⟨m, hm, G₅, ad₅, S₅, p₅, q, st₅, g₅, t₅⟩
    | cont => exact q.elim
    | brk => exact q.elim
    | ret y => obtain ⟨G₅, ad₅, S₅, d', p₅, st₅, t₅, g₅, z, q⟩ := q; exact ⟨_, rfl, G₅, ad₅, S₅, d', p₅, st₅, t₅, g₅, z, q⟩
  | false =>
    simp only [Bool.false_eq_true, if_false]
    exact nope_any (wpAny_mono (h2 rfl A c G₁ ad' s₁ R C hsc st₁ gg) (fun f s₅ q => ⟨f, rfl, q.step tt⟩) fun _ _ f => f)
end
end Mine
end

-- the text M39
section
open PySem PySem.Calls PySem.W PyProof.Rows
set_option maxRecDepth 100000
namespace Mine
section
variable {prog : Program} {w : World} {A : Around} {E : Value → Shared → Prop} {s : Shared}

theorem call_next_list {it l : Addr} {i : Nat} {items : Array Value} {x : Value} {Q : Value → Shared → Prop} (hit : s.heap.IsListIter it l i) (hl : s.heap.IsList l items) (hx : items[i]? = some x)
    (hQ : ∀ h', h'.IsListIter it l (i + 1) → Heap.SameBut it s.heap h' → Q x { s with heap := h' }) : wpAny (model prog w) A (call (.builtin "next") [.ref it]) Q E s := by
  refine call_function_entry (by decide +kernel) (by decide +kernel) kdk_entry_next (kdk_args_next _) ?_
  unfold Builtin.«next»
  refine wpAny_bind (m := someArgs "next" 1 2 _) (wpAny_of_eq (a := [Value.ref it]) (by first | rfl | kernel_rfl!) ?_)
  dsimp only
  refine wpAny_bind (wpAny_specialOf (name := Str.ofString "__next__") hit.typeIs slot_listiter_next.lookup ?_)
  refine wpAny_ite_split (fun hab => absurd hab (by decide)) (fun _ => ?_)
  obtain ⟨o, ho, hc, hd⟩ := id hit
  obtain ⟨ol, hol, _, nl, hdl⟩ := hl
  refine wpAny_bind (wpAny_callSpecial?_slot (name := Str.ofString "__next__") hit.typeIs slot_listiter_next
    (wpAny_call_entry slot_listiter_next hit.typeIs entry_listiter_next ?_ (args_listiter_next _)))
  show wpAny _ _ (field (.ref it) 0 >>= _) _ _ s
  refine wpAny_bind (wpAny_field ho hd (x := .ref l) rfl ?_)
  show wpAny _ _ (if (Value.ref l == Value.none) = true then _ else _) _ _ s
  rw [if_neg (show ¬ ((Value.ref l == Value.none) = true) from Bool.false_ne_true)]
  show wpAny _ _ (field (.ref it) 1 >>= _) _ _ s
  refine wpAny_bind (wpAny_field ho hd (x := .int i 0) rfl ?_)
  show wpAny _ _ (seqItems? (.ref l) >>= _) _ _ s
  refine wpAny_bind (wpAny_seqItems hol hdl ?_)
  simp only [Int.toNat_natCast, hx]
  refine wpAny_bind (wpAny_setField ho hd (by simp) (wpAny_pure ⟨x, rfl, wpAny_pure ⟨x, rfl, hQ _ ?_ (Heap.SameBut.update ..)⟩⟩))
  exact ⟨_, Heap.get?_update_self _ ho (Obj.isFreed_of_fields (Obj.data_mapFields hd _)), (Obj.cls_mapFields ..).trans hc, by
    rw [Obj.data_mapFields hd]; simp [rawInt]⟩
end
section
variable {prog : Program} {w : World} {K : Frag} {n : Nat} {sx : Sx} {S : State} {it a : Addr} {os : List D} {p : Nat} {Q : Fl → State → Nat → Prop}

theorem runI_next {x : Str} {xp pos cpos : Pos} {fn e : Expr} {d : D} (hf : Evals prog w K n sx S fn (.d (.raw (.builtin "next")))) (he : Evals prog w K n sx S e (.d (.raw (.ref it)))) (hd : os[p]? = some d) (hk : sx.scope.names.lookup x = some .local) (h : Q .next (S.set x (.d d)) (p + 1))
    (htrees : ∀ env, backTo cpos (starEach [e] env) = [(false, eval e env)] := by intro _; rfl)
    (hcall : ∀ env, eval (.Call fn [e] [] cpos) env = (do callWith cpos (← eval fn env) [] (backTo cpos (starEach [e] env)) (backToKw cpos (keywordEach [] env))) := by intro _; rfl)
    (hs : ∀ env, swapsWith (.Call fn [e] [] cpos) (some (.Name x xp)) pos.line env = pure false := by intro _; rfl) :
    Run1I prog w K n sx S it a os p (.Assign [.Name x xp] (.Call fn [e] [] cpos) pos) Q := by
  intro A c G ad s R C hsc st g
  subst hsc
  refine wpAny_Assign_Name ?_ (hs _)
  refine Call_ (wpg (hf A c G ad s R C rfl st) fun fv s₁ G₁ g₁ e₁ => ?_) (hcall _)
  (first | obtain rfl := Is.inv e₁ | obtain ⟨_, rfl⟩ := Is.inv e₁)
  have st₁ := st.step C g₁
  have t₁ : Step c G ad S s G₁ ad S s₁ := g₁.step
  have gg₁ := g.step t₁
  rw [htrees]
  refine Calls.callWith_builtin rfl (Calls.evalArgs_plain ?_)
  refine Calls.spliced_cons (wpg (he A c G₁ ad s₁ R C rfl st₁) fun v s₂ G₂ g₂ e₂ => ?_)
  (first | obtain rfl := Is.inv e₂ | obtain ⟨_, rfl⟩ := Is.inv e₂)
  refine Calls.spliced_nil ?_
  have st₂ := st₁.step C g₂
  have t₂ : Step c G₁ ad S s₁ G₂ ad S s₂ := g₂.step
  have gg₂ := gg₁.step t₂
  obtain ⟨o, vs, k, l1, l2, l3, l4⟩ := gg₂.lst
  have hl : s₂.heap.IsList a vs := ⟨o, st₂.sub _ _ l1, l2, k, l3⟩
  obtain ⟨v, hv, hdv⟩ := l4.get hd
  refine call_next_list gg₂.pos hl (x := v) (by simpa using hv) fun h' hp hb => ?_
  obtain ⟨st₃, gg₃, t₃⟩ := St.iter C st₂ gg₂ (t := s₂.toks) hb hp
  refine storeLocal (v := .d d) C st₃ hdv hk fun h'' t st₄ t₄ => ?_
  exact ⟨G₂, ad, _, p + 1, st₄, ((stp_w (t₁.trans t₂)).trans t₃).trans (stp_w t₄), gg₃.step t₄, h⟩
end
end Mine
end

-- the text M40
section
open PySem PySem.Calls PySem.W PyProof.Rows
set_option maxRecDepth 100000
namespace Mine
section
variable {prog : Program} {w : World} {K : Frag} {n : Nat}
theorem entry_stX {f it : Addr} {fd : FuncData} {names : List Str} {ds : List D} {s s₁ : Shared} {G : PH} {vs : List Value} (T : TopF K s.heap) (hKt : K.lookup tabA = none) (ti : TabInv G s.heap) (gb : AllBare s.gens) (sub : PSub G s.heap) (gt : G tabA = none)
    (hkg : ∀ a o, K.lookup a = some o → G a = some o) (hit : ∃ o, s.heap.get? it = some o) (itK : K.lookup it = none) (itG : G it = none) (itN : it ≠ mainGlobals ∧ it ≠ builtinsNs ∧ it ≠ cStatics ∧ it ≠ 4) (hvs : IsL G ds vs) (hnd : names.Nodup)
    (hkind : ∀ x ∈ names, fd.scope.names.lookup x = some .local ∨ fd.scope.names.lookup x = some .cell) (hg : fd.globals = mainGlobals) (hb : fd.builtins = builtinsNs) (hk : fd.scope.kind = .function) (hnn : (fd.scope.names.map (·.1)).Nodup)
    (x : InCallC s (callEnvC fd s.heap.objs.size f).locals (bindL (callEnvC fd s.heap.objs.size f).kindOf (names.zip vs) fun _ => none) (callEnvC fd s.heap.objs.size f).cells (bindC (callEnvC fd s.heap.objs.size f).kindOf (names.zip vs) fun _ => none) s₁) :
    ∃ c : Cx, c.env = callEnvC fd s.heap.objs.size f ∧ c.s₀ = s ∧ c.G₀ = G ∧ c.X = [tabA, it] ∧ CxOk K c ∧ c.sx = sxOf fd ∧ St c G [] (entryS names ds) s₁ := by
  let c : Cx := ⟨callEnvC fd s.heap.objs.size f, s, G, [tabA, it], (callEnvC fd s.heap.objs.size f).cells.map (·.2)⟩
  have hcellmem : ∀ y a, (callEnvC fd s.heap.objs.size f).cells.lookup y = some a → (y, a) ∈ (callEnvC fd s.heap.objs.size f).cells := fun y a e => mem_of_lookup e
  have tex : ∃ o, s.heap.get? tabA = some o := ti.there
  have C : CxOk K c := by
    refine ⟨hg, hb, hk, new_size _, ?_, ?_, T, List.mem_cons_self, ?_, ?_, ?_, ?_, sub, ?_, hkg⟩
    · intro a ha
      obtain ⟨⟨y, a'⟩, hm, rfl⟩ := List.mem_map.mp ha
      exact new_ge (Nat.le_of_lt (x.above y a' hm))
    · intro hL
      obtain ⟨⟨y, a'⟩, hm, e⟩ := List.mem_map.mp hL
      have := x.above y a' hm
      have e' : a' = s.heap.objs.size := e
      exact absurd (e' ▸ this) (Nat.lt_irrefl _)
    · intro b hb'
      rcases List.mem_cons.mp hb' with rfl | hb'
      · exact ⟨tex, hKt, by decide, by decide, by decide, by decide⟩
      · rw [List.mem_singleton.mp hb']; exact ⟨hit, itK, itN⟩
    · intro y a e
      exact .inl (List.mem_map.mpr ⟨_, hcellmem y a e, rfl⟩)
    · intro y z a e e'
      exact name_of_addr x.apart (hcellmem y a e) (hcellmem z a e')
    · intro y hy _
      have := cellsFrom_has fd.scope.names (s.heap.objs.size + 1) [] y hy
      obtain ⟨a, ha⟩ := Option.isSome_iff_exists.mp this
      exact ⟨a, ha, List.mem_map.mpr ⟨_, hcellmem y a ha, rfl⟩⟩
    · intro b hb'
      rcases List.mem_cons.mp hb' with rfl | hb'
      · exact gt
      · rw [List.mem_singleton.mp hb']; exact itG
  have gL : ∀ b, s.heap.objs.size ≤ b → G b = none := fun b hb' => by
    cases q : G b with
    | none => rfl
    | some o => exact absurd (Heap.lt_size (sub _ _ q)) (Nat.not_lt.mpr hb')
  have ec : c.env = callEnvC fd s.heap.objs.size f := rfl
  obtain ⟨h₁, tk, e₁⟩ := x.toInCall.same
  have st : St c G [] (entryS names ds) s₁ := by
    refine ⟨fun b o _ e => x.toInCall.keep b o e, fun b hb' => by
      rcases List.mem_cons.mp hb' with rfl | hb'
      · obtain ⟨o, e⟩ := tex; exact ⟨o, x.toInCall.keep _ _ e⟩
      · rw [List.mem_singleton.mp hb']; obtain ⟨o, e⟩ := hit; exact ⟨o, x.toInCall.keep _ _ e⟩, fun _ _ e => e, fun b o e => x.toInCall.keep b o (sub b o e), fun _ _ e => .inl e, ti.keeps x.toInCall.keep, by rw [e₁], by rw [e₁]; exact gb, ⟨_, x.toInCall.ns, ?_⟩, ?_, ?_, gL _ (Nat.le_refl _), ?_, ?_, ?_, ?_, rfl⟩
    · intro y v h1 h2
      obtain ⟨d', y', rfl, e2, e3, _⟩ := zip_bound (kf := (callEnvC fd s.heap.objs.size f).kindOf) (fun _ => none) hnd hvs h1
      exact ⟨y', e3 h2, e2⟩
    · intro y v h1 h2
      obtain ⟨d', y', rfl, e2, _, e4⟩ := zip_bound (kf := (callEnvC fd s.heap.objs.size f).kindOf) (fun _ => none) hnd hvs h1
      have hnl : (callEnvC fd s.heap.objs.size f).kindOf y ≠ some .local := fun q => by
        have h2' : (callEnvC fd s.heap.objs.size f).kindOf y = some .cell ∨ (callEnvC fd s.heap.objs.size f).kindOf y = some .free := h2
        rw [q] at h2'; rcases h2' with h2' | h2' <;> cases h2'
      have hyc : (callEnvC fd s.heap.objs.size f).kindOf y = some .cell := by
        have hm := mem_of_lookup h1
        rcases hkind y (List.of_mem_zip hm).1 with q | q
        · exact absurd q hnl
        · exact q
      obtain ⟨a, ha, _⟩ := C.own y hyc (by
        intro q
        have := cellsFrom_has fd.scope.names (s.heap.objs.size + 1) [] y hyc
        obtain ⟨a, ha⟩ := Option.isSome_iff_exists.mp this
        have hm : a ∈ c.cs := List.mem_map.mpr ⟨_, hcellmem y a ha, rfl⟩
        rw [q] at hm; cases hm)
      exact ⟨a, y', ha, (e4 hnl) ▸ x.cell y a ha, e2⟩
    · intro a ha
      obtain ⟨⟨y, a'⟩, hm, rfl⟩ := List.mem_map.mp ha
      have : ((callEnvC fd s.heap.objs.size f).cells.lookup y).isSome = true := by
        cases q : (callEnvC fd s.heap.objs.size f).cells.lookup y with
        | some _ => rfl
        | none => exact absurd (List.lookup_eq_none_iff.mp q (y, a') hm) (by simp)
      obtain ⟨a'', ha''⟩ := Option.isSome_iff_exists.mp this
      by_cases hq : a'' = a'
      · subst hq; exact ⟨_, x.cell y _ ha''⟩
      · exact absurd (one_of_keys (cellsFrom_keys fd.scope.names (s.heap.objs.size + 1) [] hnn List.nodup_nil (fun _ _ q => nomatch q)) (hcellmem y a'' ha'') hm) hq
    · intro a ha
      obtain ⟨⟨y, a'⟩, hm, rfl⟩ := List.mem_map.mp ha
      exact gL _ (Nat.le_of_lt (x.above y a' hm))
    · intro k m hk'; cases hk'
    · intro k m a hk'; cases hk'
    · intro j k m m' a hj; cases hj
  have hsx : c.sx = sxOf fd := by
    have e1 : (!c.cs.isEmpty) = fd.scope.names.any (·.2 == .cell) := by
      show (!((callEnvC fd s.heap.objs.size f).cells.map (·.2)).isEmpty) = _
      have e2 : (callEnvC fd s.heap.objs.size f).cells = cellsFrom (s.heap.objs.size + 1) fd.scope.names [] := rfl
      rw [List.isEmpty_map, e2, cellsFrom_any]
      simp
    unfold Cx.sx sxOf
    rw [e1]
    rfl
  exact ⟨c, rfl, rfl, rfl, rfl, C, hsx, st⟩


theorem iter_ne {it a : Addr} {p : Nat} {h : Heap} (T : TopF K h) (hp : h.IsListIter it a p) : it ≠ mainGlobals ∧ it ≠ builtinsNs ∧ it ≠ cStatics ∧ it ≠ 4 := by
  obtain ⟨o, e, hc, hd⟩ := hp
  have nd : ∀ {b : Addr} {m : Str → Option Value}, h.Ns b m → it ≠ b := fun {b m} x q => by
    obtain ⟨o', es, ep, e', hd', _⟩ := x
    rw [← q, e] at e'; cases e'
    rw [hd] at hd'; cases hd'
  obtain ⟨mg, x1⟩ := T.glob
  obtain ⟨mb, x2, _⟩ := T.blt
  obtain ⟨mc, x3, _⟩ := T.nolimit
  obtain ⟨ob, x4, h4, _⟩ := T.bmod
  refine ⟨nd x1, nd x2, nd x3, fun q => ?_⟩
  rw [← q, e] at x4; cases x4
  rw [hc] at h4
  injection h4 with h5
  exact absurd h5 (by decide)
theorem op_ilshift {a k : Nat} (hk : k ≤ 1000000) (ha : a < 2 ^ 60) : Op2 prog w n (inplaceOp .LShift) (dz a) (dz k) (dz (a * 2 ^ k)) := by
  intro A X G s x y R sub hx hy
  obtain ⟨_, rfl⟩ := Is.inv hx; obtain ⟨_, rfl⟩ := Is.inv hy
  refine ilshift_int_small (by simp) (by lia) (by simp; omega) ⟨G, (Same.toks s _).grow sub, ?_⟩
  have e : ((a : Int) * 2 ^ (k : Int).toNat) = ((a * 2 ^ k : Nat) : Int) := by simp
  rw [e]; exact .int _ _
theorem and_low {x b : Nat} (hb : b < 64) : (x * 64) &&& b = 0 := by
  refine Nat.eq_of_testBit_eq fun i => ?_
  rw [Nat.testBit_and, Nat.zero_testBit, show x * 64 = 2 ^ 6 * x by simp +arith, Nat.testBit_two_pow_mul]
  by_cases h : i ≥ 6
  · rw [Nat.testBit_lt_two_pow (show b < 2 ^ i from Nat.lt_of_lt_of_le hb (Nat.pow_le_pow_right (n := 2) (by decide) h))]
    simp
  · simp [h]
theorem op_ior {x b : Nat} (hb : b < 64) : Op2 prog w n (inplaceOp .BitOr) (dz (x * 64)) (dz b) (dz (x * 64 + b)) := by
  intro A X G s y z R sub hx hy
  obtain ⟨_, rfl⟩ := Is.inv hx; obtain ⟨_, rfl⟩ := Is.inv hy
  refine ior_int ⟨G, (Same.toks s _).grow sub, ?_⟩
  have e : Builtin.bitOr ((x * 64 : Nat) : Int) (b : Int) = ((x * 64 + b : Nat) : Int) := by
    rw [bitOr_and]
    have e1 : Builtin.bitAnd ((x * 64 : Nat) : Int) (b : Int) = (((x * 64) &&& b : Nat) : Int) := rfl
    rw [e1, and_low hb]; (first | rfl | decide)
  rw [e]; exact .int _ _
theorem and63 (b : Nat) : b &&& 63 = b % 64 := by
  have := Nat.and_two_pow_sub_one_eq_mod b 6
  simpa using this
theorem and64 (b : Nat) : b &&& 64 = b / 64 % 2 * 64 := by
  refine Nat.eq_of_testBit_eq fun i => ?_
  rw [Nat.testBit_and, show (64 : Nat) = 2 ^ 6 from rfl, Nat.testBit_two_pow, show b / 2 ^ 6 % 2 * 2 ^ 6 = 2 ^ 6 * (b / 2 ^ 6 % 2) by simp +arith, Nat.testBit_two_pow_mul]
  by_cases h : i = 6
  · subst h
    simp [Nat.testBit, Nat.shiftRight_eq_div_pow]
  · by_cases h2 : i ≥ 6
    · have h3 : b / 2 ^ 6 % 2 < 2 ^ (i - 6) := Nat.lt_of_lt_of_le (Nat.mod_lt _ (by decide)) (by
        have := Nat.pow_le_pow_right (n := 2) (by decide) (show 1 ≤ i - 6 by lia)
        simpa using this)
      rw [Nat.testBit_lt_two_pow h3]
      simp [Ne.symm h, h]
    · simp [Ne.symm h, h2, h]
theorem op_andN {a b : Nat} : Op2 prog w n (binaryOp .BitAnd) (dz a) (dz b) (dz (a &&& b)) := by
  intro A X G s x y R sub hx hy
  obtain ⟨_, rfl⟩ := Is.inv hx; obtain ⟨_, rfl⟩ := Is.inv hy
  exact and_int ⟨G, (Same.toks s _).grow sub, .int _ _⟩
end
end Mine
end

-- the text N14
section
open PySem PySem.Calls PySem.W PyProof.Rows
set_option maxRecDepth 100000
namespace Mine
section
variable {prog : Program} {w : World}

noncomputable def vint (o1 o2 o3 : Nat) : Nat := ((o1 % 64) * 64 + o2 % 64) * 64 + o3 % 64
noncomputable def viS (it : Addr) (b v : Nat) : State := ⟨[("b", .d (dz b)), ("val", .d (dz v)), ("iterator", .d (.raw (.ref it)))], []⟩
theorem op_and63 {n b : Nat} : Op2 prog w n (binaryOp .BitAnd) (dz b) (dz 63) (dz (b % 64)) := by
  rw [← and63]; exact op_andN
set_option maxHeartbeats 4000000 in
theorem spec_varint {n : Nat} {os : List D} {it a : Addr} {p o1 o2 o3 : Nat} (h1 : os[p]? = some (dz o1)) (h2 : os[p + 1]? = some (dz o2)) (h3 : os[p + 2]? = some (dz o3)) (b1 : o1 / 64 % 2 = 1) (b2 : o2 / 64 % 2 = 1) (b3 : o3 / 64 % 2 = 0)
    {A : Around} {s : Shared} {G : PH} (R : Room A (n + 1)) (T : TopF (KK w) s.heap) (ti : TabInv G s.heap) (gb : AllBare s.gens) (sub : PSub G s.heap) (gt : G tabA = none) (hkg : ∀ a o, (KK w).lookup a = some o → G a = some o)
    (itG : G it = none) (hp : s.heap.IsListIter it a p) (hl : ∃ o vs k, G a = some o ∧ o.cls = .type "list" ∧ o.data = .seq vs k ∧ IsL G os vs.toList) (hne : it ≠ tabA) :
    codeAny (model prog w) A (.call (.ref 38) ⟨[.ref it], []⟩) (fun r s' => ∃ v G', r = .ok (.ret v) ∧ Grow [tabA, it] G s G' s' ∧ s'.heap.IsListIter it a (p + 3) ∧ Is G' (dz (vint o1 o2 o3)) v) s := by
  obtain ⟨oc, od, osl, fd, body, ho, hbody, hcd, hg, hb, hk, hco, hgen, hclo, hsn, hbind, hnn, hki, hrun⟩ : ∃ (oc : Value) (od : Option Addr) (osl : Array (Option Value)) (fd : FuncData) (body : List Stmt), (KK w).lookup 38 = some ⟨oc, od, .func fd, osl⟩ ∧ fd.body = .stmts body ∧ codeIn (KK w) fd.code fd.qualname = true ∧ fd.globals = mainGlobals ∧ fd.builtins = builtinsNs ∧ fd.scope.kind = .function ∧ fd.scope.isCoroutine = false ∧ fd.scope.isGenerator = false ∧ fd.closure = [] ∧ True ∧
      (∀ x, bindArgs fd ⟨[x], []⟩ = pure ((["iterator"] : List Str).zip [x])) ∧ (fd.scope.names.map (·.1)).Nodup ∧ (∀ x ∈ (["iterator"] : List Str), fd.scope.names.lookup x = some .local ∨ fd.scope.names.lookup x = some .cell) ∧
      RunsI prog w (KK w) n (sxOf fd) (entryS ["iterator"] [.raw (.ref it)]) it a os p body (fun fl _ p' => fl = .ret (dz (vint o1 o2 o3)) ∧ p' = p + 3) := by
    refine ⟨_, _, _, _, _, by rfl, by rfl, by kernel_rfl, by rfl, by rfl, by rfl, by rfl, by rfl, by rfl, trivial, fun x => by rfl, by decide +kernel, by decide +kernel, ?_⟩
    have hx : ∀ o : Nat, (((o &&& 64 : Nat) : Int) != 0) = (o / 64 % 2 == 1) := fun o => by
      rw [and64]
      have : o / 64 % 2 < 2 := Nat.mod_lt _ (by decide)
      rcases Nat.lt_or_ge (o / 64 % 2) 1 with q | q
      · have e : o / 64 % 2 = 0 := by exact (Nat.le_antisymm (lin [_] (.v 0) (.n 0) (.s 1 (.a (.v 0) (.n 1)) (.n 1) .z) rfl q) (lin [_] (.n 0) (.v 0) .z rfl))
        rw [e]; rfl
      · have e : o / 64 % 2 = 1 := by exact (Nat.le_antisymm (lin [_] (.v 0) (.n 1) (.s 1 (.a (.v 0) (.n 1)) (.n 2) .z) rfl this) q)
        rw [e]; rfl
    refine runsI_cons (runI_next bv lv h1 (by rfl) ?_)
    refine runsI_cons (runI_pure (run_assign (v := .d (dz (o1 % 64))) (ev_binop lv (nt 63) op_and63) (by rfl) ?_))
    let bs : Nat → Nat := fun k => if k = 2 then o1 else if k = 1 then o2 else o3
    let vs : Nat → Nat := fun k => if k = 2 then o1 % 64 else if k = 1 then o1 % 64 * 64 + o2 % 64 else vint o1 o2 o3
    refine runsI_cons (runI_while (fun k S' p' => k ≤ 2 ∧ p' = p + 3 - k ∧ Has S' (viS it (bs k) (vs k))) (k₀ := 2) ⟨Nat.le_refl _, by exact (Nat.le_antisymm (lin [_, _] (.a (.v 0) (.n 1)) (.v 1) (.s 1 (.a (.v 0) (.n 3)) (.a (.v 1) (.n 2)) .z) rfl (subx _ _)) (lin [_, _] (.v 0) (.a (.v 1) (.n 1)) (.e 1 0 (.a (.v 0) (.n 2)) (.a (.v 1) (.n 3)) .z) rfl (Nat.sub_add_cancel (lin [_] (.n 2) (.a (.v 0) (.n 3)) .z rfl)))), has rfl ⟨rfl, rfl, rfl, trivial⟩⟩ fun k S' p' hJ => ?_)
    obtain ⟨hk, rfl, hH⟩ := hJ
    rcases (show k = 0 ∨ k = 1 ∨ k = 2 by lia) with rfl | rfl | rfl
    · refine ⟨_, tests_of (ev_binop (lv (hH.get _ _ rfl)) (nt 64) op_andN) truthy_int', fun q => ?_, fun _ => ?_⟩
      · rw [hx] at q; have q' : (o3 / 64 % 2 == 1) = true := q; rw [b3] at q'; cases q'
      · exact runsI_nil (runsI_weaken hH (runsI_cons (runI_pure (run_ret lv ⟨rfl, rfl⟩))))
    · refine ⟨_, tests_of (ev_binop (lv (hH.get _ _ rfl)) (nt 64) op_andN) truthy_int', fun _ => ?_, fun q => ?_⟩
      · refine runsI_weaken hH ?_
        refine runsI_cons (runI_pure (run_aug (a := dz (o1 % 64 * 64 + o2 % 64)) (b := dz 6) (d := dz ((o1 % 64 * 64 + o2 % 64) * 2 ^ 6)) rfl (nt 6) (op_ilshift (by decide) (by exact (lin [_, _] (.a (.a (.r (.v 0) 64) (.v 1)) (.n 1)) (.n 1152921504606846976) (.s 64 (.a (.v 0) (.n 1)) (.n 64) (.s 1 (.a (.v 1) (.n 1)) (.n 64) .z)) rfl (Nat.mod_lt _ (Nat.succ_pos 63)) (Nat.mod_lt _ (Nat.succ_pos 63))))) (by rfl) ?_))
        refine runsI_cons (runI_next bv lv h3 (by rfl) ?_)
        refine runsI_cons (runI_pure (run_aug (a := dz ((o1 % 64 * 64 + o2 % 64) * 64)) (b := dz (o3 % 64)) (d := dz ((o1 % 64 * 64 + o2 % 64) * 64 + o3 % 64)) rfl (ev_binop lv (nt 63) op_and63) (op_ior (Nat.mod_lt _ (by decide))) (by rfl) (runsI_nil ?_)))
        exact ⟨0, by decide, by decide, by exact (Nat.le_antisymm (lin [_, _, _] (.a (.v 0) (.n 1)) (.v 1) (.s 1 (.a (.v 2) (.n 3)) (.a (.v 1) (.n 0)) (.e 1 0 (.a (.v 0) (.n 1)) (.a (.v 2) (.n 3)) .z)) rfl (subx _ _) (Nat.sub_add_cancel (lin [_] (.n 1) (.a (.v 0) (.n 3)) .z rfl))) (lin [_, _, _] (.v 0) (.a (.v 1) (.n 1)) (.s 1 (.a (.v 2) (.n 3)) (.a (.v 1) (.n 1)) (.s 1 (.v 0) (.a (.v 2) (.n 3)) .z)) rfl (subx _ _) (Nat.sub_le _ _))), has rfl ⟨rfl, rfl, rfl, trivial⟩⟩
      · rw [hx] at q; have q' : (o2 / 64 % 2 == 1) = false := q; rw [b2] at q'; cases q'
    · refine ⟨_, tests_of (ev_binop (lv (hH.get _ _ rfl)) (nt 64) op_andN) truthy_int', fun _ => ?_, fun q => ?_⟩
      · refine runsI_weaken hH ?_
        refine runsI_cons (runI_pure (run_aug (a := dz (o1 % 64)) (b := dz 6) (d := dz ((o1 % 64) * 2 ^ 6)) rfl (nt 6) (op_ilshift (by decide) (by exact (lin [_] (.a (.v 0) (.n 1)) (.n 1152921504606846976) (.s 1 (.a (.v 0) (.n 1)) (.n 64) .z) rfl (Nat.mod_lt _ (Nat.succ_pos 63))))) (by rfl) ?_))
        refine runsI_cons (runI_next bv lv h2 (by rfl) ?_)
        refine runsI_cons (runI_pure (run_aug (a := dz ((o1 % 64) * 64)) (b := dz (o2 % 64)) (d := dz ((o1 % 64) * 64 + o2 % 64)) rfl (ev_binop lv (nt 63) op_and63) (op_ior (Nat.mod_lt _ (by decide))) (by rfl) (runsI_nil ?_)))
        exact ⟨1, by decide, by decide, by exact (Nat.le_antisymm (lin [_, _, _] (.a (.v 0) (.n 1)) (.v 1) (.s 1 (.a (.v 2) (.n 3)) (.a (.v 1) (.n 1)) (.e 1 0 (.a (.v 0) (.n 2)) (.a (.v 2) (.n 3)) .z)) rfl (subx _ _) (Nat.sub_add_cancel (lin [_] (.n 2) (.a (.v 0) (.n 3)) .z rfl))) (lin [_, _, _] (.v 0) (.a (.v 1) (.n 1)) (.s 1 (.a (.v 2) (.n 3)) (.a (.v 1) (.n 2)) (.e 1 0 (.a (.v 0) (.n 1)) (.a (.v 2) (.n 3)) .z)) rfl (subx _ _) (Nat.sub_add_cancel (lin [_] (.n 1) (.a (.v 0) (.n 3)) .z rfl)))), has rfl ⟨rfl, rfl, rfl, trivial⟩⟩
      · rw [hx] at q; have q' : (o1 / 64 % 2 == 1) = false := q; rw [b1] at q'; cases q'
  have hob := T.obj _ _ ho
  have hitx : ∃ o, s.heap.get? it = some o := let ⟨o, e, _⟩ := hp; ⟨o, e⟩
  have itK : (KK w).lookup it = none := by
    cases q : (KK w).lookup it with
    | none => rfl
    | some o => rw [hkg _ _ q] at itG; cases itG
  refine codeAny_call_cells (fd := fd) R.room hob rfl T.nolimit (codeRec_of T.obj hcd) hbody (hbind _) hclo ?_ ?_ hco hgen hk
  · intro x hx
    have hx1 : x.1 ∈ (["iterator"] : List Str) := (List.of_mem_zip hx).1
    rcases hki _ hx1 with q | q
    · exact .inl q
    · exact .inr ⟨q, cellsFrom_has _ _ _ _ q⟩
  intro s₁ x
  obtain ⟨c, ec, es, eG, eX, C, hsx, st⟩ := entry_stX (K := KK w) (f := 38) (fd := fd) (names := ["iterator"]) (ds := [.raw (.ref it)]) (vs := [.ref it]) T (KKtab w) ti gb sub gt hkg hitx itK itG (iter_ne T hp) (.cons (.raw _) .nil) (by decide) hki hg hb hk hnn x
  rw [← ec]
  have hg₁ : Gst c G [] (entryS ["iterator"] [.raw (.ref it)]) s₁ it a os p := by
    refine ⟨fun q => ?_, itG, ?_, hl, .inl (by rw [eX]; simp), hne⟩
    · obtain ⟨oi, ei, _⟩ := hp
      rcases q with q | q | q | ⟨k, m, h1, _⟩
      · exact C.L.ne (by rw [es]; exact ei) q
      · exact (C.cs _ q).ne (by rw [es]; exact ei) rfl
      · exact hne q
      · cases h1
    · obtain ⟨oi, ei, r⟩ := hp
      exact ⟨oi, x.toInCall.keep _ _ ei, r⟩
  refine wpAny_mono (hrun (A.deeper c.env) c G [] s₁ R.deeper C hsx st hg₁) (fun fl s' q => ?_) fun _ _ f => f.elim
  cases fl with
  | ret v =>
    obtain ⟨G', ad', S', d', p', y, t, gg, z, q, hp'⟩ := q
    cases q
    subst hp'
    refine ⟨v, G', rfl, ⟨fun b o hb' e => y.keep b o (by rw [eX]; exact hb') (es ▸ e), fun b o e => ?_, eG ▸ y.le, y.sub, fun b o e => by have := y.fresh b o e; rw [eG, es] at this; exact this, fun _ => y.tab, by rw [y.os, es], fun _ => y.gens⟩, gg.pos, z⟩
    by_cases hb' : b ∈ c.X
    · exact y.thX b hb'
    · exact ⟨o, y.keep b o hb' (es ▸ e)⟩
  | next => obtain ⟨_, _, _, _, _, _, _, q, _⟩ := q; cases q
  | brk => exact q.elim
  | cont => exact q.elim
end
end Mine
end

-- the text M41
section
open PySem PySem.Calls PySem.W PyProof.Rows
set_option maxRecDepth 100000
namespace Mine
section
variable {K : Frag} {c : Cx} {G G' : PH} {ad : List Addr} {S : State} {s s' : Shared} {it a : Addr} {os : List D} {p p' : Nat}

/-- a walker's step keeps the iterator -/
theorem Gst.walkG {wr : List Addr} {h' : Heap} {t : Nat} (x : Gst c G ad S s it a os p) (hk : ∀ b o, b ∉ wr → s.heap.get? b = some o → h'.get? b = some o) (hw : it ∉ wr) (le : PLe G G') (fr : ∀ b o, G' b = some o → G b = some o ∨ New s.heap b) :
    Gst c G' ad S { s with heap := h', toks := t } it a os p := by
  obtain ⟨o, e, hc, hd⟩ := x.pos
  obtain ⟨ol, vs, n, l1, l2, l3, l4⟩ := x.lst
  refine ⟨x.own, ?_, ⟨o, hk it o hw e, hc, hd⟩, ⟨ol, vs, n, le _ _ l1, l2, l3, l4.mono le⟩, x.fresh, x.net⟩
  cases q : G' it with
  | none => rfl
  | some o' =>
    rcases fr it o' q with z | z
    · rw [x.g] at z; cases z
    · exact absurd rfl (z.ne e)
/-- the heap grown, the iterator turned, where the iterator is junk -/
theorem St.growJ (C : CxOk K c) (x : St c G ad S s) (g : Grow [tabA, it] G s G' s') (hn : New c.s₀.heap it) (hg : G it = none) (ho : ¬ Own c ad S it) : St c G' ad S s' := by
  have kL : ∀ b, b ≠ it → b ≠ tabA → ∀ o, s.heap.get? b = some o → s'.heap.get? b = some o := fun b h1 h2 o e => g.keep b o (fun q => by
    rcases List.mem_cons.mp q with q | q
    · exact h2 q
    · exact h1 (List.mem_singleton.mp q)) e
  have nt : ∀ b, New c.s₀.heap b → b ≠ tabA := fun b hb q => by
    obtain ⟨o, e⟩ := (C.X _ C.tabX).1
    exact hb.ne e q.symm
  have off : ∀ b o, s.heap.get? b = some o → G b = none → G' b = none := fun b o' hb e => by
    cases q : G' b with
    | none => rfl
    | some o => exact (g.fresh b o q).elim (fun z => by rw [e] at z; cases z) fun z => absurd rfl (z.ne hb)
  obtain ⟨m, hnn, hm⟩ := x.ns
  refine ⟨fun b o hb e => kL b (fun q => hn.ne e q) (fun q => hb (q ▸ C.tabX)) o (x.keep b o hb e), fun b hb => let ⟨o, e⟩ := x.thX b hb; g.there b o e, fun b o e => g.le b o (x.le b o e), g.sub, fun b o e => ?_, g.tab x.tab, g.os.trans x.os, g.gens x.gens, ?_, ?_, ?_, ?_, ?_, ?_, ?_, x.apart, x.len⟩
  · exact (g.fresh b o e).elim (x.fresh b o) fun h => .inr (x.new h)
  · obtain ⟨o, es, ep, e, r⟩ := hnn
    exact ⟨m, ⟨o, es, ep, kL _ (fun q => ho (.inl q.symm)) (nt _ C.L) _ e, r⟩, fun y v h1 h2 => let ⟨z, h3, h4⟩ := hm y v h1 h2; ⟨z, h3, h4.mono g.le⟩⟩
  · intro y v h1 h2
    obtain ⟨a, z, h3, ⟨o, e, hd⟩, h5⟩ := x.cell y v h1 h2
    refine ⟨a, z, h3, ⟨o, ?_, hd⟩, h5.mono g.le⟩
    rcases C.addr y a h3 with h | h
    · exact kL _ (fun q => ho (.inr (.inl (q ▸ h)))) (nt _ (C.cs a h)) _ e
    · exact kL _ (fun q => by obtain ⟨o', e'⟩ := h.1; exact hn.ne e' q) (fun q => h.2 (by rw [q]; exact C.tabX)) _ e
  · intro a ha
    obtain ⟨y, o, e, hd⟩ := x.cex a ha
    exact ⟨y, o, kL _ (fun q => ho (.inr (.inl (q ▸ ha)))) (nt _ (C.cs a ha)) _ e, hd⟩
  · obtain ⟨o, _, _, e, _⟩ := hnn
    exact off _ o e x.offL
  · intro a ha
    obtain ⟨y, o, e, hd⟩ := x.cex a ha
    exact off _ o e (x.offC a ha)
  · intro k m' hk
    exact (x.mt k m' hk).kept (fun ha a e o => kL a (fun q => ho (.inr (.inr (.inr ⟨k, m', hk, ha, q ▸ e⟩)))) (nt _ (x.offM k m' a hk ha e).2.2.2) o) g.le fun _ _ e => e
  · intro k m' a hk ha e
    obtain ⟨h1, h2, h3, h4⟩ := x.offM k m' a hk ha e
    obtain ⟨o, ho⟩ := (x.mt k m' hk).there ha e
    exact ⟨off _ o ho h1, h2, h3, h4⟩
theorem Grow.stpJ (g : Grow [tabA, it] G s G' s') : Stp [it] c G ad S s G' ad S s' :=
  ⟨fun b o e h h2 => g.keep b o (fun q => by
    rcases List.mem_cons.mp q with q | q
    · exact h (.inr (.inr (.inl q)))
    · exact h2 q) e, fun _ h => .inl h, g.le, fun b o e => (g.fresh b o e).elim .inl fun q => .inr (.inr (.inr q))⟩
end

section
variable {prog : Program} {w : World} {K : Frag} {n : Nat} {sx : Sx} {it a : Addr} {os : List D}

noncomputable def RestI (prog : Program) (w : World) (K : Frag) (n : Nat) (sx : Sx) (fv : List (Str × V)) (it a : Addr) (os : List D) (p p' : Nat) (rest : Value → Env → Sem Unit) (r : D) : Prop :=
  ∀ (A : Around) (c : Cx) (G : PH) (Da : Addr) (acc : List V) (s : Shared) (vars : List (Str × V)), Room A n → CxOk K c → c.sx = sx → (∀ y v, fv.lookup y = some v → vars.lookup y = some v) → St c G [Da] ⟨vars, [.list acc]⟩ s → acc.length + 1 ≤ sizeLine →
    Gst c G [Da] ⟨vars, [.list acc]⟩ s it a os p →
    wpAny (model prog w) A (rest (.ref Da) c.env) (fun _ s' => ∃ G' vars', (∀ y v, fv.lookup y = some v → vars'.lookup y = some v) ∧ St c G' [Da] ⟨vars', [.list (acc ++ [V.d r])]⟩ s' ∧ Stp [it] c G [Da] ⟨vars, [.list acc]⟩ s G' [Da] ⟨vars', [.list (acc ++ [V.d r])]⟩ s' ∧
      Gst c G' [Da] ⟨vars', [.list (acc ++ [V.d r])]⟩ s' it a os p') Nope s

noncomputable def LoopI (prog : Program) (w : World) (K : Frag) (n : Nat) (sx : Sx) (fv : List (Str × V)) (target e : Expr) (depth : Nat) (items : List D) (it a : Addr) (os : List D) (pos : Nat → Nat) (es : List D) : Prop :=
  ∀ (A : Around) (c : Cx) (G : PH) (Da : Addr) (acc : List V) (s : Shared) (vars : List (Str × V)) (I : Addr) (fp wr : List Addr) (W : Nat → Heap → Prop),
    Room A n → CxOk K c → c.sx = sx → (∀ y v, fv.lookup y = some v → vars.lookup y = some v) → St c G [Da] ⟨vars, [.list acc]⟩ s → acc.length + es.length ≤ sizeLine →
    Wk prog w A G target items I fp wr W → W 0 s.heap → (∀ b ∈ wr, Junk c G [Da] ⟨vars, [.list acc]⟩ b ∧ ∃ o, s.heap.get? b = some o) → (∀ b ∈ fp, b ∈ wr ∨ ∃ o, G b = some o) → it ∉ wr → Gst c G [Da] ⟨vars, [.list acc]⟩ s it a os (pos 0) →
    codeAny (model prog w) A (.compLoop e depth (.ref I) (.ref Da) c.env) (fun r s' => r = .ok .next ∧ ∃ G' vars', (∀ y v, fv.lookup y = some v → vars'.lookup y = some v) ∧
      St c G' [Da] ⟨vars', [.list (acc ++ es.map V.d)]⟩ s' ∧ Stp (it :: wr) c G [Da] ⟨vars, [.list acc]⟩ s G' [Da] ⟨vars', [.list (acc ++ es.map V.d)]⟩ s' ∧ Gst c G' [Da] ⟨vars', [.list (acc ++ es.map V.d)]⟩ s' it a os (pos items.length)) s

theorem loopI {fv : List (Str × V)} {e : Expr} {depth : Nat} {p : Pos} {target : Expr} {rest : Value → Env → Sem Unit} {items : List D} {es : List D} {upd : D → List (Str × D)} {pos : Nat → Nat} (hlen : es.length = items.length)
    (ht : ∀ it acc env, compTurn e depth it acc env = (standAt p >>= fun _ => pyNext it >>= fun r => match r with
      | none => pure (.done .next)
      | some v => letOwnedTupleGo target it v >>= fun _ => assign target env v >>= fun _ => rest acc env >>= fun _ => again (.compLoop e depth it acc env)))
    (hd : ∀ it acc env, (model prog w).den (.compLoop e depth it acc env) = (compTurn e depth it acc env).onRaise (fun x => do noteFrame x env; theTreesLotGoes x)) (hu : ∀ A it acc env, Around.under A (.compLoop e depth it acc env) = A) (hq : ∀ it acc env, (Code.compLoop e depth it acc env).quiet = true)
    (hb : ∀ (i : Nat) (d : D), items[i]? = some d → Binds prog w K n sx target d (upd d))
    (hr : ∀ (i : Nat) (d : D) (r : D), items[i]? = some d → es[i]? = some r → RestI prog w K n sx (((upd d).reverse.map fun p => (p.1, V.d p.2)) ++ fv) it a os (pos i) (pos (i + 1)) rest r)
    (hfv : ∀ (i : Nat) (d : D) (y : Str) (v : V), items[i]? = some d → fv.lookup y = some v → ((upd d).reverse.map fun p => (p.1, V.d p.2)).lookup y = none) : LoopI prog w K n sx fv target e depth items it a os pos es := by
  intro A c G Da acc s vars I fp wr W R C hsc hvars st hz F hW hwr hfp hitw gst
  let acc' : Nat → List V := fun i => acc ++ (es.take i).map V.d
  have wrs : ∀ b ∈ wr, b ∈ it :: wr := fun b hb => List.mem_cons_of_mem _ hb
  refine codeAny_compLoop' (fun k s' => ∃ i G' vars', k = items.length + 1 - i ∧ i ≤ items.length ∧ (∀ y v, fv.lookup y = some v → vars'.lookup y = some v) ∧ St c G' [Da] ⟨vars', [.list (acc' i)]⟩ s' ∧ W i s'.heap ∧
      Stp (it :: wr) c G [Da] ⟨vars, [.list acc]⟩ s G' [Da] ⟨vars', [.list (acc' i)]⟩ s' ∧ (∀ b ∈ wr, Junk c G' [Da] ⟨vars', [.list (acc' i)]⟩ b ∧ ∃ o, s'.heap.get? b = some o) ∧ Gst c G' [Da] ⟨vars', [.list (acc' i)]⟩ s' it a os (pos i)) (ht _ _ _) (fun c' h => by subst h; exact hd _ _ _) (hu _ _ _ _) (hq _ _ _) ?_ (items.length + 1)
    ⟨0, G, vars, rfl, Nat.zero_le _, hvars, by simpa [acc'] using st, hW, by simpa [acc'] using Stp.refl (it :: wr) c G [Da] ⟨vars, [.list acc]⟩ s, by simpa [acc'] using hwr, by simpa [acc'] using gst⟩
  rintro k s' ⟨i, G', vars', rfl, hi, hv', st', hWi, tp, hj, gs⟩
  by_cases hlt : i < items.length
  · refine wpAny_mono (F.item i _ G' (fun v s₁ => ∃ h' tk G₁ d, s₁ = { s' with heap := h', toks := tk } ∧ PLe G' G₁ ∧ PSub G₁ h' ∧ (∀ b o, G₁ b = some o → G' b = some o ∨ New s'.heap b) ∧ W (i + 1) h' ∧ (∀ b o, b ∉ wr → s'.heap.get? b = some o → h'.get? b = some o) ∧ items[i]? = some d ∧ Is G₁ d v) hlt hWi st'.sub tp.le (fun b hb => (hj b hb).1.G) fun v h' tk G₁ d h1 h2 h3 h4 h5 h6 h7 => ⟨h', tk, G₁, d, rfl, h1, h2, h3, h4, h5, h6, h7⟩) (fun r s₁ h₁ => ?_) fun _ _ f => f
    obtain ⟨v, rfl, h₁⟩ := h₁
    dsimp only
    refine wpAny_mono h₁ (fun _ s₁' h₁ => ?_) fun _ _ f => f
    obtain ⟨h', tk, G₁, d, rfl, le₁, sub₁, fr₁, hW', hk, hd', hdv⟩ := h₁
    have st₁ : St c G₁ [Da] ⟨vars', [.list (acc' i)]⟩ { s' with heap := h', toks := tk } := st'.walkG C (fun b hb => (hj b hb).1) hk le₁ sub₁ fr₁
    have t₁ : Stp wr c G' [Da] ⟨vars', [.list (acc' i)]⟩ s' G₁ [Da] ⟨vars', [.list (acc' i)]⟩ { s' with heap := h', toks := tk } := Stp.walkG hk le₁ fr₁
    have gs₁ : Gst c G₁ [Da] ⟨vars', [.list (acc' i)]⟩ { s' with heap := h', toks := tk } it a os (pos i) := gs.walkG hk hitw le₁ fr₁
    have hjm : ∀ b ∈ wr, Junk c G₁ [Da] ⟨vars', [.list (acc' i)]⟩ b := fun b hb => (hj b hb).1.more (hj b hb).2 fr₁
    refine wpg (hb i d hd' A c G₁ [Da] _ _ v R C hsc st₁ hdv) fun _ s₂ G₂ st₂ t₂ => ?_
    have gs₂ := gs₁.step t₂
    have hri : i < es.length := by exact (lin [_, _, _] (.a (.v 0) (.n 1)) (.v 1) (.e 0 1 (.v 1) (.v 2) (.s 1 (.a (.v 0) (.n 1)) (.v 2) .z)) rfl hlen hlt)
    have hrr : es[i]? = some es[i] := by simp [hri]
    have em : (setAll (upd d) ⟨vars', [.list (acc' i)]⟩) = ⟨(setAll (upd d) ⟨vars', [.list (acc' i)]⟩).vars, [.list (acc' i)]⟩ := by
      have := setAll_muts (upd d) ⟨vars', [.list (acc' i)]⟩
      cases h : setAll (upd d) ⟨vars', [.list (acc' i)]⟩ with
      | mk vs ms => rw [h] at this; cases this; rfl
    have hfv₂ : ∀ y v, ((((upd d).reverse.map fun p => (p.1, V.d p.2)) ++ fv).lookup y = some v → (setAll (upd d) ⟨vars', [.list (acc' i)]⟩).vars.lookup y = some v) := fun y v hy => by
      have hg := setAll_get (upd d) ⟨vars', [.list (acc' i)]⟩ y v
      rw [List.lookup_append] at hy
      cases q : ((upd d).reverse.map fun p => (p.1, V.d p.2)).lookup y with
      | some u => rw [q] at hy; exact hg.1 (by rw [q]; simpa using hy)
      | none => rw [q] at hy; exact (hg.2 q).trans (hv' y v (by simpa using hy))
    have hlen' : (acc' i).length + 1 ≤ sizeLine := by
      have e3 : (acc' i).length = acc.length + i := by show (acc ++ (es.take i).map V.d).length = _; rw [List.length_append, List.length_map, List.length_take]; exact (Nat.le_antisymm (lin [_, _, _] (.a (.v 0) (.v 1)) (.a (.v 0) (.v 2)) (.s 1 (.v 1) (.v 2) .z) rfl (Nat.min_le_left _ _)) (lin [_, _, _] (.a (.v 0) (.v 1)) (.a (.v 0) (.v 2)) (.e 0 1 (.v 2) (.v 1) .z) rfl (Nat.min_eq_left (lin [_, _] (.v 0) (.v 1) (.s 1 (.a (.v 0) (.n 1)) (.v 1) .z) rfl hri))))
      exact (lin [_, _, _, _, _] (.a (.v 0) (.n 1)) (.v 1) (.s 1 (.a (.v 2) (.v 3)) (.v 1) (.s 1 (.a (.v 4) (.n 1)) (.v 3) (.e 1 0 (.v 0) (.a (.v 2) (.v 4)) .z))) rfl hz hri e3)
    rw [em] at st₂ t₂ gs₂
    refine wpAny_mono (hr i d es[i] hd' hrr A c G₂ Da (acc' i) s₂ _ R C hsc hfv₂ st₂ hlen' gs₂) (fun _ s₃ ⟨G₃, vars₃, hv₃, st₃, t₃, gs₃⟩ => ?_) fun _ _ f => f
    have eacc : acc' i ++ [V.d es[i]] = acc' (i + 1) := by
      simp only [acc']
      rw [List.take_add_one, hrr, List.map_append, List.append_assoc]; rfl
    rw [eacc] at st₃ t₃ gs₃
    have t₂₃ : Stp [it] c G₁ [Da] ⟨vars', [.list (acc' i)]⟩ { s' with heap := h', toks := tk } G₃ [Da] ⟨vars₃, [.list (acc' (i + 1))]⟩ s₃ := (stp_w t₂).trans t₃
    have hj' : ∀ b ∈ wr, ∃ o, h'.get? b = some o := F.there _ _ hW'
    have nit : ∀ b ∈ wr, b ∉ [it] := fun b hb q => hitw (List.mem_singleton.mp q ▸ hb)
    refine ⟨items.length + 1 - (i + 1), by exact (lin [_, _, _, _] (.a (.v 0) (.n 1)) (.v 1) (.s 1 (.a (.v 2) (.n 1)) (.a (.v 1) (.v 3)) (.e 1 0 (.a (.v 0) (.a (.v 3) (.n 1))) (.a (.v 2) (.n 1)) .z)) rfl (subx _ _) (Nat.sub_add_cancel (lin [_, _] (.a (.v 0) (.n 1)) (.a (.v 1) (.n 1)) (.s 1 (.v 0) (.v 1) .z) rfl hi))), i + 1, G₃, vars₃, rfl, hlt, fun y v hy => hv₃ y v ?_, st₃, ?_, ?_, ?_, gs₃⟩
    · rw [List.lookup_append, hfv i d y v hd' hy]; simpa using hy
    · refine F.frame _ _ _ hW' fun b hb o eo => ?_
      rcases hfp b hb with q | ⟨o₁, q⟩
      · exact t₂₃.kept b o eo (hj b q).1.own (nit b q)
      · have q' := le₁ _ _ (tp.le _ _ q)
        have e1 := st₁.sub _ _ q'
        rw [e1] at eo; cases eo
        exact st₃.sub _ _ (t₂₃.le _ _ q')
    · exact tp.trans ((t₁.mono fun b hb => .inl (wrs b hb)).trans (t₂₃.mono fun b hb => .inl (by rw [List.mem_singleton.mp hb]; exact List.mem_cons_self)))
    · intro b hb
      obtain ⟨o, eo⟩ := hj' b hb
      exact ⟨(hjm b hb).stp t₂₃ ⟨o, eo⟩ (nit b hb), o, t₂₃.kept b o eo (hj b hb).1.own (nit b hb)⟩
  · have hin : i = items.length := by exact (Nat.le_antisymm hi (lin [_, _] (.v 0) (.v 1) (.s 1 (.v 0) (.v 1) .z) rfl (nlt' hlt)))
    subst hin
    refine F.done _ _ hWi fun h' tk hk => ?_
    dsimp only
    have ee : acc' items.length = acc ++ es.map V.d := by simp only [acc', ← hlen, List.take_length]
    rw [ee] at st' tp gs
    refine ⟨rfl, G', vars', hv', st'.walk C (fun b hb => by have := (hj b hb).1; rw [ee] at this; exact this) hk, tp.trans ((Stp.walk hk).mono fun b hb => .inl (wrs b hb)), gs.walkG hk hitw (fun _ _ e => e) fun b o e => .inl e⟩
end
end Mine
end

-- the text M42
section
open PySem PySem.Calls PySem.W PyProof.Rows
set_option maxRecDepth 100000
namespace Mine
section
variable {prog : Program} {w : World} {K : Frag} {n : Nat} {sx : Sx} {S : State}
noncomputable def CompEndI (G : PH) (s : Shared) (it a : Addr) (es : List D) (C : Addr) (acc : Value) (p : Nat) (s' : Shared) : Prop :=
  ∃ G' m, Grow [tabA, it] G s G' s' ∧ Is G' (.list es) acc ∧ s'.heap.Ns C m ∧ New s.heap C ∧ G' C = none ∧ s'.heap.IsListIter it a p ∧ G' it = none

set_option tactic.hygienic true in
theorem compI_core {elt target iter : Expr} {ifs : List Expr} {gs : List Comprehension} {scope : Scope} {pos : Pos} {fv : List (Str × D)} {items es : List D} {it a : Addr} {os : List D} {ps : Nat → Nat} {use : Option (Value → Sem Unit)} {A : Around} {c : Cx} {G : PH} {ad : List Addr} {s : Shared} {Q : Value → Shared → Prop}
    (hs : ∀ env x, foldedSetIterable iter env x = pure x) (hkind : scope.kind = .function) (hcell : ∀ y ∈ scope.names, y.2 ≠ .cell)
    (hnames : ∀ y ∈ scope.names, y.2 = .local → scope.names.lookup y.1 = some .local)
    (hfree : ∀ y ∈ scope.names, y.2 = .free → (fv.lookup y.1).isSome = true)
    (hfv : ∀ y d, fv.lookup y = some d → S.get y = some (.d d) ∧ (sx.scope.names.lookup y = some .cell ∨ sx.scope.names.lookup y = some .free) ∧ scope.names.lookup y = some .free)
    (hsrc : Src prog w K n sx S target iter items)
    (hloop : LoopI prog w K n (sxComp sx scope) (fv.map fun p => (p.1, V.d p.2)) target (.ListComp elt (⟨target, iter, ifs, 0⟩ :: gs) scope pos) 0 items it a os ps es) (hlen : es.length ≤ sizeLine)
    (R : Room A n) (C : CxOk K c) (hsc : c.sx = sx) (st : St c G ad S s) (gst : Gst c G ad S s it a os (ps 0))
    (hQ : ∀ acc C' s', CompEndI G s it a es C' acc (ps items.length) s' → compPost (model prog w) A Nope use Q acc C' (.ok .next) s') :
    wpAny (model prog w) A (comprehension (.ListComp elt (⟨target, iter, ifs, 0⟩ :: gs) scope pos) scope c.env (firstIterPos (⟨target, iter, ifs, 0⟩ :: gs) pos) (newList []) false (eval iter c.env) use) Q Nope s := by
  subst hsc
  have hcl := closureFor_of (scope := scope) (env := c.env) (fun y hy hf => by
    obtain ⟨d, hd⟩ := Option.isSome_iff_exists.mp (hfree y hy hf)
    obtain ⟨h1, h2, _⟩ := hfv y.1 d hd
    obtain ⟨a, _, h3, _⟩ := st.cell y.1 _ h1 h2
    rw [h3]; rfl)
  obtain ⟨cl, hclos, hcl1, hcl2⟩ := hcl
  refine wpAny_comprehension_free (cl := cl) rfl (hs c.env) hclos hkind hnames (wpAny_mono (hsrc A c G ad s R C rfl st) (fun x sm ⟨G₁, s₁, g₁, _, hp⟩ => ?_) fun _ _ f => f)
  have st₁ := st.step C g₁
  refine wpAny_mono hp (fun it s₂ h₂ => ?_) fun _ _ f => f
  obtain ⟨I, fp, wr, W, rfl, F, hW, same, hwr, hfp⟩ := h₂
  have gst₁ : Gst c G₁ ad S s₁ it a os (ps 0) := gst.step g₁.step
  obtain ⟨oit, eit, cit, dit⟩ := gst₁.pos
  refine wpAny_newObj_type (wpAny_newFunctionEnv hcell (by intro y hy; simp at hy) (fun h₁ hns₁ hsb₁ => ?_) hkind)
  dsimp only at hns₁ hsb₁ ⊢
  generalize hH2 : s₂.heap.push { cls := .type "list", dict := none, data := .seq ([] : List Value).toArray } = H2 at hns₁ hsb₁ ⊢
  have hC : H2.objs.size = s₂.heap.objs.size + 1 := by rw [← hH2, Heap.size_push]
  have hCnew : New s₂.heap H2.objs.size := new_ge (by rw [hC]; exact Nat.le_succ _)
  have hDnew : New s₂.heap s₂.heap.objs.size := new_size _
  have hDC : s₂.heap.objs.size ≠ H2.objs.size := by rw [hC]; exact Nat.ne_of_lt (Nat.lt_succ_self _)
  have k12 : ∀ b o, s₁.heap.get? b = some o → s₂.heap.get? b = some o := same.keep
  have k2h : ∀ b o, s₂.heap.get? b = some o → h₁.get? b = some o := fun b o e => hsb₁.extBut b o (hCnew.ne e) (Heap.get?_push_of_some _ (hH2 ▸ Heap.get?_push_of_some _ e))
  have kk : ∀ b o, s₁.heap.get? b = some o → h₁.get? b = some o := fun b o e => k2h b o (k12 b o e)
  have new1 : ∀ b, New s₂.heap b → New s₁.heap b := fun b z => by
    unfold New
    cases q : s₁.heap.get? b with
    | none => rfl
    | some o => exact absurd rfl (z.ne (k12 b o q))
  have hDl : h₁.PlainList s₂.heap.objs.size #[] := ⟨0, hsb₁.extBut _ _ hDC (Heap.get?_push_of_some _ (hH2 ▸ Heap.get?_push_size _ rfl))⟩
  have gnone : ∀ b, New s₁.heap b → G₁ b = none := fun b z => by
    cases q : G₁ b with
    | none => rfl
    | some o => exact absurd rfl (z.ne (st₁.sub _ _ q))
  let c' : Cx := ⟨compEnvC scope cl H2.objs.size c.env, s₁, G₁, [tabA, it], []⟩
  have xs : ∀ b, b ∈ [tabA, it] → b = tabA ∨ b = it := fun b hb => by
    rcases List.mem_cons.mp hb with q | q
    · exact .inl q
    · exact .inr (List.mem_singleton.mp q)
  have itK : K.lookup it = none := by
    cases q : K.lookup it with
    | none => rfl
    | some o => have := st₁.le it o (C.kg _ _ q); rw [gst₁.g] at this; cases this
  have thX : ∀ b ∈ [tabA, it], ∃ o, s₁.heap.get? b = some o := fun b hb => by
    rcases xs b hb with rfl | rfl
    · exact st₁.thX _ C.tabX
    · exact ⟨_, eit⟩
  have C' : CxOk K c' := by
    refine ⟨C.glob, C.blt, ?_, new1 _ hCnew, (fun _ h => nomatch h), (fun h => nomatch h), st₁.top C, List.mem_cons_self, fun b hb => ?_, fun y a e => ?_, fun y z a e e' => C.inj y z a (hcl1 y a e) (hcl1 z a e'), fun y _ h => absurd rfl h, st₁.sub, fun b hb => ?_, fun a o e => st₁.le a o (C.kg a o e)⟩
    · exact hkind
    · rcases xs b hb with rfl | rfl
      · exact ⟨thX _ hb, (C.X _ C.tabX).2⟩
      · exact ⟨thX _ hb, itK, iter_ne (st₁.top C) gst₁.pos⟩
    · have e' := hcl1 y a e
      right
      rcases C.addr y a e' with h | h
      · obtain ⟨_, o, ho, _⟩ := st₁.cex a h
        refine ⟨⟨o, ho⟩, fun q => ?_⟩
        rcases xs a q with rfl | rfl
        · exact St.notX C (C.cs _ h) C.tabX
        · exact gst₁.own (.inr (.inl h))
      · obtain ⟨o, ho⟩ := h.1
        refine ⟨⟨o, st₁.keep a o h.2 ho⟩, fun q => ?_⟩
        rcases xs a q with rfl | rfl
        · exact h.2 C.tabX
        · rcases gst₁.fresh with z | z
          · exact h.2 z
          · exact z.ne ho rfl
    · show G₁ b = none
      rcases xs b hb with rfl | rfl
      · exact st₁.gt C
      · exact gst₁.g
  let fvV : List (Str × V) := fv.map fun p => (p.1, V.d p.2)
  have fvl : ∀ y v, fvV.lookup y = some v → ∃ d, v = .d d ∧ fv.lookup y = some d := fun y v e => by
    have e' : (fv.lookup y).map V.d = some v := (mapd_lookup y fv).symm.trans e
    cases q : fv.lookup y with
    | none => rw [q] at e'; cases e'
    | some d => rw [q] at e'; cases e'; exact ⟨d, rfl, rfl⟩
  have kindf : ∀ y, scope.names.lookup y = some .free → (relabel scope c.env).names.lookup y ≠ some .local := by
    intro y hy
    show (scope.names.map fun (n, k) => if (k == NameKind.free && c.env.scope.kind == .function && c.env.kindOf n == some .cell) then (n, NameKind.cell) else (n, k)).lookup y ≠ _
    revert hy
    generalize scope.names = l
    induction l with
    | nil => intro hy; cases hy
    | cons p r ih =>
      intro hy
      obtain ⟨nm, k⟩ := p
      simp only [List.map_cons]
      cases hb : y == nm with
      | true =>
        simp only [List.lookup_cons, hb] at hy
        cases hy
        split <;> (simp only [List.lookup_cons, hb]; intro q; cases q)
      | false =>
        simp only [List.lookup_cons, hb] at hy
        split <;> (simp only [List.lookup_cons, hb]; exact ih hy)
  have st' : St c' G₁ [s₂.heap.objs.size] ⟨fvV, [.list []]⟩ { s₂ with heap := h₁, toks := s₂.toks + ([] : List (Str × Value)).length } := by
    refine ⟨fun b o _ e => kk b o e, fun b hb => let ⟨o, e⟩ := thX b hb; ⟨o, kk b o e⟩, fun _ _ e => e, fun b o e => kk b o (st₁.sub b o e), fun _ _ e => .inl e, st₁.tab.keeps kk, same.os, by show AllBare s₂.gens; rw [same.gens]; exact st₁.gens, ⟨_, hns₁, ?_⟩, ?_, (fun _ h => nomatch h), gnone _ (new1 _ hCnew), (fun _ h => nomatch h), ?_, ?_, ?_, rfl⟩
    · intro y v h1 h2
      obtain ⟨d, rfl, e⟩ := fvl y v h1
      exact absurd h2 (kindf y (hfv y d e).2.2)
    · intro y v h1 h2
      obtain ⟨d, rfl, e⟩ := fvl y v h1
      obtain ⟨q1, q2, q3⟩ := hfv y d e
      obtain ⟨a, z, h3, ⟨o, h4, hd⟩, h5⟩ := st₁.cell y _ q1 q2
      have hm : (y, NameKind.free) ∈ scope.names := mem_of_lookup q3
      obtain ⟨a', ha'⟩ := Option.isSome_iff_exists.mp (hcl2 y hm)
      have := hcl1 y a' ha'
      rw [h3] at this; cases this
      exact ⟨a, z, ha', ⟨o, kk _ _ h4, hd⟩, h5⟩
    · intro k m hk
      cases k with
      | zero => cases hk; exact ⟨_, #[], rfl, hDl, .nil⟩
      | succ k => cases hk
    · intro k m a hk ha e
      cases k with
      | zero =>
        cases e
        exact ⟨gnone _ (new1 _ hDnew), hDC, (fun h => nomatch h), new1 _ hDnew⟩
      | succ k => cases hk
    · intro j k m m' a hj hk _ _ _ _
      cases j with
      | zero => cases k with
        | zero => rfl
        | succ k => cases hk
      | succ j => cases hj
  have hW' : W 0 h₁ := F.frame 0 _ _ hW fun b hb o e => k2h b o e
  have hj : ∀ b ∈ wr, Junk c' G₁ [s₂.heap.objs.size] ⟨fvV, [.list []]⟩ b ∧ ∃ o, h₁.get? b = some o := fun b hb => by
    obtain ⟨o, eo⟩ := F.there 0 _ hW b hb
    refine ⟨⟨hwr b hb, gnone _ (hwr b hb), fun q => ?_⟩, o, k2h b o eo⟩
    rcases q with q | q | q | ⟨k, m, h1, h2, h3⟩
    · exact hCnew.ne eo q
    · cases q
    · obtain ⟨ps, e', _⟩ := st₁.tab; exact (hwr b hb).ne (q ▸ e') rfl
    · cases k with
      | zero => cases h3; exact hDnew.ne eo rfl
      | succ k => cases h1
  have hitw : it ∉ wr := fun q => absurd rfl ((hwr it q).ne eit)
  have gst' : Gst c' G₁ [s₂.heap.objs.size] ⟨fvV, [.list []]⟩ { s₂ with heap := h₁, toks := s₂.toks + ([] : List (Str × Value)).length } it a os (ps 0) := by
    refine ⟨fun q => ?_, gst₁.g, ⟨oit, kk _ _ eit, cit, dit⟩, gst₁.lst, .inl (by simp [c']), gst₁.net⟩
    rcases q with q | q | q | ⟨k, m, h1, h2, h3⟩
    · exact (new1 _ hCnew).ne eit q
    · cases q
    · exact gst₁.net q
    · cases k with
      | zero => cases h3; exact absurd rfl ((new1 _ hDnew).ne eit)
      | succ k => cases h1
  have loop := hloop A c' G₁ s₂.heap.objs.size [] _ fvV I fp wr W R C' rfl (fun _ _ e => e) st' (by simpa using hlen) F hW' hj (fun b hb => (hfp b hb).elim .inl fun ⟨o, _, e⟩ => .inr ⟨o, e⟩) hitw gst'
  have loop' : codeAny (model prog w) A (.compLoop (.ListComp elt (⟨target, iter, ifs, 0⟩ :: gs) scope pos) 0 (.ref I) (.ref s₂.heap.objs.size) c'.env) (compPost (model prog w) A Nope use Q (.ref s₂.heap.objs.size) H2.objs.size) { s₂ with heap := h₁, toks := s₂.toks + ([] : List (Str × Value)).length } := by
    refine codeAny_mono loop fun r s' h => ?_
    obtain ⟨rfl, G', vars', _, y, _, gy⟩ := h
    obtain ⟨m, hm, _⟩ := y.ns
    obtain ⟨a, vs, ea, ⟨k, ho'⟩, hv⟩ := y.mt 0 _ rfl
    cases ea
    obtain ⟨o, ho, hc, hd⟩ : ∃ o, s'.heap.get? s₂.heap.objs.size = some o ∧ o.cls = .type "list" ∧ o.data = .seq vs k := ⟨_, ho', rfl, rfl⟩
    have gD : G' s₂.heap.objs.size = none := (y.offM 0 _ _ rfl trivial rfl).1
    have le2 : PLe G' (G'.put s₂.heap.objs.size o) := fun b o' e => by
      unfold PH.put
      by_cases hb : b = s₂.heap.objs.size
      · subst hb; rw [gD] at e; cases e
      · rw [if_neg hb]; exact e
    have g₁' : Grow [tabA, it] G s G₁ s₁ := g₁.mono fun b hb => by rw [List.mem_singleton.mp hb]; simp
    refine hQ _ _ s' ⟨G'.put s₂.heap.objs.size o, m, g₁'.trans ⟨fun b o' hb e => y.keep b o' hb e, fun b o' e => ?_, fun b o' e => le2 b o' (y.le b o' e), fun b o' e => ?_, fun b o' e => ?_, fun _ => y.tab.mono le2, y.os, fun _ => y.gens⟩, ?_, hm, ?_, ?_, gy.pos, ?_⟩
    · by_cases hb : b ∈ c'.X
      · exact y.thX b hb
      · exact ⟨o', y.keep b o' hb e⟩
    · unfold PH.put at e
      split at e
      · rename_i hb; subst hb; cases e; exact ho
      · exact y.sub b o' e
    · unfold PH.put at e
      split at e
      · rename_i hb; subst hb; exact .inr (new1 _ hDnew)
      · exact y.fresh b o' e
    · exact .list (PH.put_self _ _ _) hc hd ((isL_of_isVL (by simpa using hv)).mono le2)
    · unfold New
      cases q : s.heap.get? H2.objs.size with
      | none => rfl
      | some o' =>
        obtain ⟨o'', e'⟩ := g₁.there _ _ q
        exact absurd rfl ((new1 _ hCnew).ne e')
    · unfold PH.put
      rw [if_neg (Ne.symm hDC)]
      exact y.offL
    · unfold PH.put
      rw [if_neg (fun q => absurd rfl ((new1 _ hDnew).ne (q ▸ eit)))]
      exact gy.g
  refine codeAny_compStart' (g := ⟨target, iter, ifs, 0⟩) rfl rfl loop' (F.self 0 _ _ hW' loop')

theorem runI_assign_comp {x : Str} {pos' spos : Pos} {elt target iter : Expr} {ifs : List Expr} {gs : List Comprehension} {scope : Scope} {pos : Pos} (fv : List (Str × D)) {items es : List D} {it a : Addr} {os : List D} {ps : Nat → Nat} {Q : Fl → State → Nat → Prop}
    (hsrc : Src prog w K n sx S target iter items)
    (hloop : LoopI prog w K n (sxComp sx scope) (fv.map fun p => (p.1, V.d p.2)) target (.ListComp elt (⟨target, iter, ifs, 0⟩ :: gs) scope pos) 0 items it a os ps es) (hlen : es.length ≤ sizeLine)
    (hk : sx.scope.names.lookup x = some .local) (h : Q .next (S.set x (.d (.list es))) (ps items.length))
    (hkind : scope.kind = .function) (hcell : ∀ y ∈ scope.names, y.2 ≠ .cell)
    (hnames : ∀ y ∈ scope.names, y.2 = .local → scope.names.lookup y.1 = some .local)
    (hfree : ∀ y ∈ scope.names, y.2 = .free → (fv.lookup y.1).isSome = true)
    (hfv : ∀ y d, fv.lookup y = some d → S.get y = some (.d d) ∧ (sx.scope.names.lookup y = some .cell ∨ sx.scope.names.lookup y = some .free) ∧ scope.names.lookup y = some .free)
    (hs : ∀ env x, foldedSetIterable iter env x = pure x := by intro _ _; rfl)
    (hsw : ∀ env : Env, env.scope = sx.scope → swapsWith (.ListComp elt (⟨target, iter, ifs, 0⟩ :: gs) scope pos) (some (.Name x pos')) spos.line env = pure true) :
    Run1I prog w K n sx S it a os (ps 0) (.Assign [.Name x pos'] (.ListComp elt (⟨target, iter, ifs, 0⟩ :: gs) scope pos) spos) Q := by
  intro A c G ad s R C hsc st gst
  rw [exec_Assign_Name_used _ _ _ _ (hsw c.env (by rw [← hsc]; rfl))]
  refine wpAny_bind (wpAny_standAt (wpAny_bind ?_))
  show wpAny _ A (do let _ ← comprehension (.ListComp elt (⟨target, iter, ifs, 0⟩ :: gs) scope pos) scope c.env _ (newList []) false (eval iter c.env) (some (assign (.Name x pos') c.env))) _ _ s
  refine wpAny_bind (wpAny_mono (compI_core (use := some (assign (.Name x pos') c.env)) (Q := fun _ s' => PostI c G ad S s it a os Q .next s') hs hkind hcell hnames hfree hfv hsrc hloop hlen R C hsc st gst fun acc C' s' h => ?_) (fun _ s' hq => wpAny_pure (wpAny_pure hq)) fun _ _ e => e)
  obtain ⟨G', m, g, hv, hn, hC, hG, hp', hGit⟩ := h
  subst hsc
  show wpAny _ A (assign (.Name x pos') c.env acc) _ _ _
  have st' : St c G' ad S s' := by
    rcases gst.fresh with z | z
    · exact st.grow C g fun b hb => by
        rcases List.mem_cons.mp hb with q | q
        · rw [q]; exact C.tabX
        · rw [List.mem_singleton.mp q]; exact z
    · exact st.growJ C g z gst.g gst.own
  obtain ⟨oit, eit, cit, dit⟩ := gst.pos
  have gst' : Gst c G' ad S s' it a os (ps items.length) := by
    obtain ⟨ol, vs, k, l1, l2, l3, l4⟩ := gst.lst
    exact ⟨gst.own, hGit, hp', ⟨ol, vs, k, g.le _ _ l1, l2, l3, l4.mono g.le⟩, gst.fresh, gst.net⟩
  have tJ : Stp [it] c G ad S s G' ad S s' := g.stpJ
  refine wpAny_assign_Name ?_
  obtain ⟨mm, hmm⟩ := st'.ns
  have hLC : c.env.locals ≠ C' := by
    obtain ⟨m0, ⟨o, _, _, ho, _⟩, _⟩ := st.ns
    exact hC.ne ho
  refine wpAny_storeName_local hk hmm.1 (fun h' hn' hs' => ?_) (by rw [C.kind]; rfl)
  have st'' := st'.store (v := .d (.list es)) (t := s'.toks + 1) C hmm hn' (fun u => rfl) hs' hv hk
  have t'' : Step c G' ad S s' G' ad (S.set x (.d (.list es))) { s' with heap := h', toks := s'.toks + 1 } := step_same hs' (.inl rfl) fun b q => q.vars rfl
  refine ⟨m, hn.sameBut hs' (Ne.symm hLC), fun h'' hs'' => ?_⟩
  have j : Junk c G' ad (S.set x (.d (.list es))) C' := by
    refine ⟨st.new hC, hG, fun q => ?_⟩
    have q' := q.vars (S := S) rfl
    rcases q' with q' | q' | q' | ⟨k, mt, h1, h2, h3⟩
    · exact hLC q'.symm
    · obtain ⟨_, o, ho, _⟩ := st.cex _ q'; exact hC.ne ho rfl
    · obtain ⟨ps, ho, _⟩ := st.tab; exact hC.ne ho q'.symm
    · obtain ⟨o, ho⟩ := (st.mt k mt h1).there h2 h3; exact hC.ne ho rfl
  have kC : ∀ b o, b ∉ [C'] → h'.get? b = some o → h''.get? b = some o := fun b o hb e => (hs''.2 b (fun q => hb (List.mem_singleton.mpr q))).trans e
  have hitC : it ∉ [C'] := fun q => absurd rfl (hC.ne (List.mem_singleton.mp q ▸ eit))
  refine ⟨G', ad, _, _, st''.walk C (wr := [C']) (h' := h'') (t := s'.toks + 1) (fun b hb => by rw [List.mem_singleton.mp hb]; exact j) kC, ?_, (gst'.step t'').walkG kC hitC (fun _ _ e => e) (fun b o e => .inl e), h⟩
  have t3 : Stp [C'] c G' ad (S.set x (.d (.list es))) { s' with heap := h', toks := s'.toks + 1 } G' ad (S.set x (.d (.list es))) { s' with heap := h'', toks := s'.toks + 1 } := Stp.walk kC
  have t4 : Stp [it, C'] c G ad S s G' ad (S.set x (.d (.list es))) { s' with heap := h'', toks := s'.toks + 1 } :=
    (Stp.trans (tJ.mono fun b hb => .inl (by rw [List.mem_singleton.mp hb]; simp)) (Stp.trans (t''.mono fun b hb => nomatch hb) (t3.mono fun b hb => .inl (by rw [List.mem_singleton.mp hb]; simp))))
  refine t4.mono fun b hb => ?_
  rcases List.mem_cons.mp hb with q | q
  · exact .inl (by rw [q]; simp)
  · rw [List.mem_singleton.mp q]; exact .inr hC
end
end Mine
end

-- the text M43
section
open PySem PySem.Calls PySem.W PyProof.Rows
set_option maxRecDepth 100000
namespace Mine
section
variable {prog : Program} {w : World} {A : Around} {E : Value → Shared → Prop} {s : Shared}

theorem call_iter_list {l : Addr} {items : Array Value} {Q : Value → Shared → Prop} (hl : s.heap.IsList l items) (h : Q (.ref s.heap.objs.size) { s with heap := s.heap.push { cls := .type "list_iterator", data := .fields #[.ref l, .int 0 0] } }) :
    wpAny (model prog w) A (call (.builtin "iter") [.ref l]) Q E s := by
  refine call_function_entry (by decide +kernel) (by decide +kernel) kdk_entry_iter (kdk_args_iter _) ?_
  unfold Builtin.«iter»
  refine wpAny_bind (m := someArgs "iter" 1 2 _) (wpAny_of_eq (a := [Value.ref l]) (by first | rfl | kernel_rfl!) ?_)
  show wpAny _ _ (pyIter (.ref l) >>= _) _ _ _
  refine wpAny_bind (wpAny_pyIter_list hl ?_)
  exact wpAny_pure ⟨_, rfl, h⟩

theorem call_extend_list {l b : Addr} {items : Array Value} {ys : Array Value} {Q : Value → Shared → Prop} (hl : s.heap.PlainList l items) (hb : s.heap.IsList b ys) (hne : l ≠ b) (h1 : items.size ≤ 100000) (h2 : ys.size ≤ 100000)
    (h : ∀ h', h'.PlainList l (items ++ ys) → Heap.SameBut l s.heap h' → Q .none { s with heap := h' }) : wpAny (model prog w) A (call (.builtin "list.extend") [.ref l, .ref b]) Q E s := by
  have hT := hl.isList.typeIs (s := s)
  have hTb := hb.typeIs (s := s)
  obtain ⟨n, ho⟩ := hl
  obtain ⟨ob, hob, hcb, nb, hdb⟩ := hb
  refine wpAny_call_entry PySem.F.slot_list_extend hT PySem.F.entry_list_extend ?_ (PySem.F.args_list_extend_2 _ _)
  unfold Builtin.«list.extend»
  show wpAny _ _ (Builtin.List.listExtendWith (.ref l) (.ref b) .none) _ _ _
  unfold Builtin.List.listExtendWith
  refine wpAny_bind (wpAny_typeOf hTb ?_)
  have e1 : Builtin.List.listSameRef (.ref l) (.ref b) = false := by simp [Builtin.List.listSameRef, hne]
  have e2 : (Value.type "list" == Value.type "list") = true := by decide
  simp only [e1, e2, Bool.false_or, Bool.true_or, if_true]
  unfold Builtin.List.listItems
  refine wpAny_bind (wpAny_bind (wpAny_seqItems hob hdb (wpAny_pure ?_)))
  refine wpAny_bind (wpAny_bind (wpAny_seqItems ho rfl (wpAny_pure ?_)))
  have e3 : (!items.isEmpty && Builtin.List.listTooLong (items.size + ys.size)) = false := by
    have : Builtin.List.listTooLong (items.size + ys.size) = false := by
      unfold Builtin.List.listTooLong
      rw [sizeLine_eq]
      exact decide_eq_false (by lia)
    rw [this, Bool.and_false]
  rw [e3]
  simp only [Bool.false_eq_true, if_false]
  show wpAny _ _ (updateSeq l (· ++ ys) >>= fun _ => ret .none) _ _ s
  refine wpAny_bind (wpAny_updateSeq ho rfl (wpAny_pure ⟨.none, rfl, ?_⟩) (by rw [sizeLine_eq]; omega) (by rw [Array.size_append, sizeLine_eq]; exact (lin [_, _] (.a (.v 0) (.v 1)) (.a (.n 16777216) (.n 1)) (.s 1 (.v 0) (.n 100000) (.s 1 (.v 1) (.n 100000) .z)) rfl h1 h2)))
  have e4 := Heap.get?_update_self (Obj.mapSeq (· ++ ys)) ho (by simp [Obj.mapSeq]; rfl)
  have e5 : ∃ m, Obj.mapSeq (· ++ ys) { cls := .type "list", data := .seq items n } = { cls := .type "list", data := .seq (items ++ ys) m } := ⟨_, rfl⟩
  obtain ⟨m, e5⟩ := e5
  exact h _ ⟨m, e4.trans (congrArg some e5)⟩ (Heap.SameBut.update ..)

/-- list(it), the iterator at its end -/
theorem call_list_iter_end {it l : Addr} {i : Nat} {items : Array Value} {Q : Value → Shared → Prop} (hh : A.handled = none) (hit : s.heap.IsListIter it l i) (hl : s.heap.IsList l items) (hx : items[i]? = none)
    (h : ∀ h' k, (∀ b o, b ≠ it → s.heap.get? b = some o → h'.get? b = some o) → h'.get? s.heap.objs.size = some { cls := .type "list", data := .seq #[] k } → Q (.ref s.heap.objs.size) { s with heap := h' }) : wpAny (model prog w) A (call (.type "list") [.ref it]) Q E s := by
  have ito : ∃ o, s.heap.get? it = some o := let ⟨o, e, _⟩ := hit; ⟨o, e⟩
  have hSI : s.heap.objs.size ≠ it := fun q => by obtain ⟨o, e⟩ := ito; exact absurd (Heap.lt_size e) (by rw [← q]; exact Nat.lt_irrefl _)
  have hSl : s.heap.objs.size ≠ l := fun q => by obtain ⟨o, e, _⟩ := hl; exact absurd (Heap.lt_size e) (by rw [← q]; exact Nat.lt_irrefl _)
  refine callType_codes (Q₁ := fun obj s₁ => obj = .ref s.heap.objs.size ∧ s₁ = { s with heap := s.heap.push { cls := .type "list", data := .seq #[] } }) PySem.F.called_list (PySem.F.typeCall_list_1 _) PySem.F.entry_list_init
    (code_list_new _ ⟨rfl, rfl⟩) fun obj s₁ h₁ => ?_
  obtain ⟨rfl, rfl⟩ := h₁
  have hS : (s.heap.push { cls := .type "list", data := .seq #[] }).get? s.heap.objs.size = some { cls := .type "list", data := .seq #[] } := Heap.get?_push_size _ rfl
  refine ⟨⟨_, hS, rfl⟩, PySem.F.args_list_init_2 _ _, ?_⟩
  show wpAny _ A.in1.in1 (do let old ← Builtin.List.listItems (.ref s.heap.objs.size); Builtin.List.listUpdate (.ref s.heap.objs.size) (fun _ => #[]); letGo old.toList.reverse; Builtin.List.listExtendWith (.ref s.heap.objs.size) (.ref it) .none) _ _ _
  refine wpAny_bind ?_
  unfold Builtin.List.listItems
  refine wpAny_bind (wpAny_seqItems hS rfl (wpAny_pure ?_))
  show wpAny _ A.in1.in1 (updateSeq s.heap.objs.size (fun _ => #[]) >>= fun _ => letGo (#[] : Array Value).toList.reverse >>= fun _ => Builtin.List.listExtendWith (.ref s.heap.objs.size) (.ref it) .none) _ _ _
  refine wpAny_bind (wpAny_updateSeq hS rfl ?_)
  have hS₂ := Heap.get?_update_self (Obj.mapSeq (fun _ => (#[] : Array Value))) hS rfl
  have oth : ∀ b o, b ≠ s.heap.objs.size → (s.heap.push { cls := .type "list", data := .seq #[] }).get? b = some o → ((s.heap.push { cls := .type "list", data := .seq #[] }).update s.heap.objs.size (Obj.mapSeq (fun _ => (#[] : Array Value)))).get? b = some o :=
    fun b o hb e => (Heap.get?_update_other _ _ (Ne.symm hb)).trans e
  have keep : ∀ b o, s.heap.get? b = some o → ((s.heap.push { cls := .type "list", data := .seq #[] }).update s.heap.objs.size (Obj.mapSeq (fun _ => (#[] : Array Value)))).get? b = some o :=
    fun b o e => oth b o (fun q => absurd (Heap.lt_size e) (by rw [q]; exact Nat.lt_irrefl _)) (Heap.get?_push_of_some _ e)
  refine wpAny_bind (wpAny_letGo ?_)
  generalize hH : ((s.heap.push { cls := .type "list", data := .seq #[] }).update s.heap.objs.size (Obj.mapSeq (fun _ => (#[] : Array Value)))) = H at keep hS₂ ⊢
  have hit₂ : H.IsListIter it l i := let ⟨o, e, r⟩ := hit; ⟨o, keep _ _ e, r⟩
  have hl₂ : H.IsList l items := let ⟨o, e, r⟩ := hl; ⟨o, keep _ _ e, r⟩
  have hT : ({ s with heap := H } : Shared).TypeIs (.ref it) "list_iterator" := Heap.IsListIter.typeIs (s := { s with heap := H }) hit₂
  have h1 : Builtin.List.listSameRef (.ref s.heap.objs.size) (.ref it) = false := by simp [Builtin.List.listSameRef, hSI]
  unfold Builtin.List.listExtendWith
  refine wpAny_bind (wpAny_typeOf hT ?_)
  rw [if_neg (by rw [h1]; decide)]
  refine wpAny_bind (wpAny_pyIter_listiter (s := { s with heap := H }) hit₂ ?_)
  refine wpAny_bind (wpAny_holding ?_)
  unfold Builtin.List.listLengthHint
  refine wpAny_bind (wpAny_specialOf hT PySem.F.nolen_li ?_)
  show wpAny _ A.in1.in1 (specialOf (Value.ref it) (Str.ofString "__length_hint__") >>= _) _ _ _
  refine wpAny_bind (wpAny_specialOf hT PySem.F.hint_li ?_)
  (generalize hid : ("list_iterator.__length_hint__" : String) = id0; wp_delta; rw [show splitId id0 = some ("list_iterator", "__length_hint__") from by subst hid; decide +kernel]; subst hid)
  refine wpAny_bind (wpAny_isInstance (b := true) hT (by rw [isSubtype_type]; kernel_rfl) ?_)
  refine wpAny_pure ?_
  rw [if_neg (by decide)]
  refine wpAny_pure ⟨plainId_quiet PySem.F.plain_extend_loop _, ?_⟩
  refine codeAny_builtin PySem.F.entry_extend_loop ?_
  rw [Around.under_plainId PySem.F.plain_extend_loop _]
  show wpAny _ A.in1.in1 (pyNext (.ref it) >>= _) _ _ _
  refine wpAny_bind (wpAny_pyNext_list_end (s := { s with heap := H }) hh hit₂ hl₂ hx fun h' he => ?_)
  refine wpAny_pure ⟨rfl, h h' _ (fun b o hb e => he b o hb (keep b o e)) (he _ _ hSI hS₂)⟩
end
end Mine
end

-- the text M44
section
open PySem PySem.Calls PySem.W PyProof.Rows
set_option maxRecDepth 100000
namespace Mine
section
variable {prog : Program} {w : World} {K : Frag} {n : Nat} {sx : Sx} {S : State}

theorem run_extend {o e : Expr} {apos cpos epos : Pos} {k : Nat} {l : List V} {es : List D} {Q : Fl → State → Prop} (ho : Evals prog w K n sx S o (.mu k)) (he : Evals prog w K n sx S e (.d (.list es))) (hm : S.muts[k]? = some (.list l)) (h1 : l.length ≤ 100000) (h2 : es.length ≤ 100000) (h : Q .next (S.upd k (.list (l ++ es.map V.d))))
    (hbase : ∀ env, attributeBase o "extend" env (eval o env) = eval o env := by intro _; rfl) (hline : (apos.endLine == cpos.line) = true := by rfl)
    (hst : ∀ env, starEach [e] env = [(false, eval e env)] := by intro _; rfl)
    (hsw : ∀ env, swapsWith (.Call (.Attribute o "extend" apos) [e] [] cpos) none epos.line env = pure false := by intro _; rfl) :
    Run1 prog w K n sx S (.Expr (.Call (.Attribute o "extend" apos) [e] [] cpos) epos) Q := by
  intro A c G ad s R C hsc st
  have hi : interactive c.env = false := by
    unfold interactive
    rw [C.kind]; rfl
  refine wpAny_Expr ?_ hi (hsw _)
  refine Call_method1 (hbase _) (hst _) hline (wpg (ho A c G ad s R C hsc st) fun ov s₁ G₁ g₁ e₁ => ?_)
  obtain ⟨a, ea, rfl⟩ := e₁
  have st₁ := st.step C g₁
  obtain ⟨a', vs₀, ea', ⟨n₀, hp⟩, _⟩ := st₁.mt k _ hm
  rw [ea] at ea'; cases ea'
  refine ⟨"list", "list.extend", PySem.F.plainAttrs_list, PySem.F.slot_list_extend, PySem.F.type_list_extend, ⟨_, hp, rfl⟩, fun b e => by cases e; exact ⟨_, hp, rfl⟩, ?_⟩
  refine Calls.callWith_builtin rfl (Calls.evalArgs_plain (Calls.spliced_cons (wpg (he A c G₁ ad s₁ R C hsc st₁) fun y s₂ G₂ g₂ e₂ => Calls.spliced_nil ?_)))
  have st₂ := st₁.step C g₂
  obtain ⟨a', vs, ea', hp₂, hv⟩ := st₂.mt k _ hm
  rw [ea] at ea'; cases ea'
  obtain ⟨b, ob, ys, kk, rfl, q1, q2, q3, q4⟩ := Is.inv e₂
  have hlb : s₂.heap.IsList b ys := ⟨ob, g₂.sub _ _ q1, q2, kk, q3⟩
  have hne : a ≠ b := fun q => by
    have := (st₂.offM k _ a hm trivial ea).1
    rw [q, q1] at this; cases this
  have hsz : vs.size ≤ 100000 := by have := hv.length; simp at this; exact (lin [_, _] (.v 0) (.n 100000) (.s 1 (.v 1) (.n 100000) (.e 1 0 (.v 0) (.v 1) .z)) rfl h1 this)
  have hsy : ys.size ≤ 100000 := by have := q4.length; simp at this; exact (lin [_, _] (.v 0) (.n 100000) (.s 1 (.v 1) (.n 100000) (.e 1 0 (.v 0) (.v 1) .z)) rfl h2 this)
  refine call_extend_list hp₂ hlb hne hsz hsy fun h' hl' hs => ?_
  have st₃ := st₂.turn C (k := k) (a := a) (l := l) (l' := l ++ es.map V.d) (h' := h') (t := s₂.toks) (vs' := vs ++ ys) hm ea hl' hs (by rw [Array.toList_append]; exact hv.append (isVL_of_isL q4))
  exact ⟨G₂, ad, _, st₃, (g₁.trans g₂).step.trans (turn_step hm ea hs), h⟩

/-- an iterator is made -/
theorem runs_iter {x : Str} {xp pos cpos : Pos} {fn e : Expr} {os : List D} {rest : List Stmt} {Q : Fl → State → Prop} (hf : Evals prog w K n sx S fn (.d (.raw (.builtin "iter")))) (he : Evals prog w K n sx S e (.d (.list os))) (hk : sx.scope.names.lookup x = some .cell) (hfn : sx.fn = true)
    (h : ∀ (A : Around) (c : Cx) (G : PH) (ad : List Addr) (s : Shared) (it a : Addr), Room A n → CxOk K c → c.sx = sx → St c G ad (S.set x (.d (.raw (.ref it)))) s → Gst c G ad (S.set x (.d (.raw (.ref it)))) s it a os 0 → New c.s₀.heap it →
      wpAny (model prog w) A (execs rest c.env) (fun f s' => ∃ v d G' ad' S', f = .ret v ∧ St c G' ad' S' s' ∧ Stp [it] c G ad (S.set x (.d (.raw (.ref it)))) s G' ad' S' s' ∧ Is G' d v ∧ Q (.ret d) S') Nope s)
    (htrees : ∀ env, backTo cpos (starEach [e] env) = [(false, eval e env)] := by intro _; rfl)
    (hcall : ∀ env, eval (.Call fn [e] [] cpos) env = (do callWith cpos (← eval fn env) [] (backTo cpos (starEach [e] env)) (backToKw cpos (keywordEach [] env))) := by intro _; rfl)
    (hs : ∀ env : Env, env.scope = sx.scope → swapsWith (.Call fn [e] [] cpos) (some (.Name x xp)) pos.line env = pure false := by intro _ _; rfl) :
    Runs prog w K n sx S (.Assign [.Name x xp] (.Call fn [e] [] cpos) pos :: rest) Q := by
  intro A c G ad s R C hsc st
  have hsc' := hsc
  subst hsc
  have hne := Cx.fn_ne hfn
  refine wpAny_execs_cons (wpAny_mono (Q := fun f s' => f = .next ∧ ∃ G' it a, St c G' ad (S.set x (.d (.raw (.ref it)))) s' ∧ Step c G ad S s G' ad (S.set x (.d (.raw (.ref it)))) s' ∧ Gst c G' ad (S.set x (.d (.raw (.ref it)))) s' it a os 0 ∧ New c.s₀.heap it ∧ New s.heap it) ?_ (fun f s' p => ?_) fun _ _ f => f)
  · refine wpAny_Assign_Name ?_ (hs _ rfl)
    refine Call_ (wpg (hf A c G ad s R C rfl st) fun fv s₁ G₁ g₁ e₁ => ?_) (hcall _)
    (first | obtain rfl := Is.inv e₁ | obtain ⟨_, rfl⟩ := Is.inv e₁)
    have st₁ := st.step C g₁
    rw [htrees]
    refine Calls.callWith_builtin rfl (Calls.evalArgs_plain (Calls.spliced_cons (wpg (he A c G₁ ad s₁ R C rfl st₁) fun y s₂ G₂ g₂ e₂ => Calls.spliced_nil ?_)))
    have st₂ := st₁.step C g₂
    obtain ⟨b, ob, ys, kk, rfl, q1, q2, q3, q4⟩ := Is.inv e₂
    have hlb : s₂.heap.IsList b ys := ⟨ob, g₂.sub _ _ q1, q2, kk, q3⟩
    refine call_iter_list hlb ?_
    have sm := Same.push s₂ { cls := .type "list_iterator", data := .fields #[.ref b, .int 0 0] } s₂.toks
    have g₃ : Grow [tabA] G₂ s₂ G₂ { s₂ with heap := s₂.heap.push { cls := .type "list_iterator", data := .fields #[.ref b, .int 0 0] } } := sm.grow g₂.sub
    have st₃ := st₂.step C g₃
    have nw : New s₂.heap s₂.heap.objs.size := new_size _
    have nit : New c.s₀.heap s₂.heap.objs.size := st₂.new nw
    have nit2 : New s.heap s₂.heap.objs.size := by
      unfold New
      cases q : s.heap.get? s₂.heap.objs.size with
      | none => rfl
      | some o =>
        obtain ⟨o', e'⟩ := (g₁.trans g₂).there _ _ q
        exact absurd rfl (nw.ne e')
    have hpos : Heap.IsListIter (s₂.heap.push { cls := .type "list_iterator", data := .fields #[.ref b, .int 0 0] }) s₂.heap.objs.size b 0 := ⟨_, Heap.get?_push_size _ rfl, rfl, rfl⟩
    have gst : Gst c G₂ ad S { s₂ with heap := s₂.heap.push { cls := .type "list_iterator", data := .fields #[.ref b, .int 0 0] } } s₂.heap.objs.size b os 0 := by
      refine ⟨fun q => ?_, ?_, hpos, ⟨ob, ys, kk, q1, q2, q3, q4⟩, .inr nit, fun q => ?_⟩
      · obtain ⟨o, e⟩ := st₂.ownThere q
        exact absurd rfl (nw.ne e)
      · cases q : G₂ s₂.heap.objs.size with
        | none => rfl
        | some o => exact absurd rfl (nw.ne (g₂.sub _ _ q))
      · obtain ⟨o, e⟩ := st₂.tab.there
        exact nw.ne e q.symm
    refine storeCell (v := .d (.raw (.ref s₂.heap.objs.size))) C st₃ (.raw _) hk hne fun h' t x y => ?_
    exact ⟨rfl, G₂, s₂.heap.objs.size, b, x, ((g₁.trans g₂).trans g₃).step.trans y, gst.step y, nit, nit2⟩
  · obtain ⟨rfl, G', it, a, st', t', g', n1, n2⟩ := p
    refine wpAny_mono (h A c G' ad s' it a R C rfl st' g' n1) (fun f s'' q => ?_) fun _ _ f => f
    obtain ⟨v, d, G'', ad'', S'', rfl, y, t'', z, q⟩ := q
    refine ⟨G'', ad'', S'', d, y, ?_, z, q⟩
    have t3 : Stp [it] c G ad S s G'' ad'' S'' s'' := (stp_w t').trans t''
    exact t3.mono fun b hb => .inr (by rw [List.mem_singleton.mp hb]; exact n2)

/-- the end, where the iterator may be spent -/
noncomputable def RunsE (prog : Program) (w : World) (K : Frag) (n : Nat) (sx : Sx) (S : State) (it a : Addr) (os : List D) (p : Nat) (sts : List Stmt) (Q : D → Prop) : Prop :=
  ∀ (A : Around) (c : Cx) (G : PH) (ad : List Addr) (s : Shared), Room A n → CxOk K c → c.sx = sx → St c G ad S s → Gst c G ad S s it a os p → New c.s₀.heap it →
    wpAny (model prog w) A (execs sts c.env) (fun f s' => ∃ v d G' ad' S', f = .ret v ∧ St c G' ad' S' s' ∧ Stp [it] c G ad S s G' ad' S' s' ∧ Is G' d v ∧ Q d) Nope s
noncomputable def ThnE (prog : Program) (w : World) (K : Frag) (n : Nat) (sx : Sx) (it a : Addr) (os : List D) (rest : List Stmt) (Q : D → Prop) (f : Fl) (S' : State) (p' : Nat) : Prop :=
  match f with
  | .next => RunsE prog w K n sx S' it a os p' rest Q
  | _ => False
theorem runsE_cons {it a : Addr} {os : List D} {p : Nat} {st : Stmt} {rest : List Stmt} {Q : D → Prop} (h : Run1I prog w K n sx S it a os p st (ThnE prog w K n sx it a os rest Q)) : RunsE prog w K n sx S it a os p (st :: rest) Q := by
  intro A c G ad s R C hsc x g hn
  refine wpAny_execs_cons (wpAny_mono (h A c G ad s R C hsc x g) (fun f s' q => ?_) fun _ _ f => f)
  cases f with
  | next =>
    obtain ⟨G', ad', S', p', y, t, g', q⟩ := q
    exact wpAny_mono (q A c G' ad' s' R C hsc y g' hn) (fun _ _ ⟨v, d, G'', ad'', S'', e, y', t', z, q⟩ => ⟨v, d, G'', ad'', S'', e, y', t.trans t', z, q⟩) fun _ _ f => f
  | brk => exact q.elim
  | cont => exact q.elim
  | ret v => obtain ⟨_, _, _, _, _, _, _, _, _, q⟩ := q; exact q.elim
theorem runsE_weaken {it a : Addr} {os : List D} {p : Nat} {sts : List Stmt} {S' : State} {Q : D → Prop} (h : Has S S') (k : RunsE prog w K n sx S' it a os p sts Q) : RunsE prog w K n sx S it a os p sts Q := by
  intro A c G ad s R C hsc x g hn
  have e : S' = { S with vars := S'.vars } := by have := h.muts; cases S'; cases S; simp_all
  have y : St c G ad S' s := by rw [e]; exact x.weaken h.get
  have y2 : Stp [it] c G ad S s G ad S' s := ⟨fun _ _ e _ _ => e, fun b q => .inl (q.vars h.muts.symm), fun _ _ e => e, fun _ _ e => .inl e⟩
  exact wpAny_mono (k A c G ad s R C hsc y (g.vars h.muts.symm) hn) (fun _ _ ⟨v, d, G'', ad'', S'', e, y', t', z, q⟩ => ⟨v, d, G'', ad'', S'', e, y', y2.trans t', z, q⟩) fun _ _ f => f
theorem runs_iterE {x : Str} {xp pos cpos : Pos} {fn e : Expr} {os : List D} {rest : List Stmt} {d : D} (hf : Evals prog w K n sx S fn (.d (.raw (.builtin "iter")))) (he : Evals prog w K n sx S e (.d (.list os))) (hk : sx.scope.names.lookup x = some .cell) (hfn : sx.fn = true)
    (h : ∀ it a, RunsE prog w K n sx (S.set x (.d (.raw (.ref it)))) it a os 0 rest (fun d' => d' = d))
    (htrees : ∀ env, backTo cpos (starEach [e] env) = [(false, eval e env)] := by intro _; rfl)
    (hcall : ∀ env, eval (.Call fn [e] [] cpos) env = (do callWith cpos (← eval fn env) [] (backTo cpos (starEach [e] env)) (backToKw cpos (keywordEach [] env))) := by intro _; rfl)
    (hs : ∀ env : Env, env.scope = sx.scope → swapsWith (.Call fn [e] [] cpos) (some (.Name x xp)) pos.line env = pure false := by intro _ _; rfl) :
    Runs prog w K n sx S (.Assign [.Name x xp] (.Call fn [e] [] cpos) pos :: rest) (fun fl _ => fl = .ret d) :=
  runs_iter hf he hk hfn (fun A c G ad s it a R C hsc st g hn => wpAny_mono (h it a A c G ad s R C hsc st g hn) (fun f s' ⟨v, d', G', ad', S', e, y, t, z, q⟩ => ⟨v, d', G', ad', S', e, y, t, z, by rw [q]⟩) fun _ _ f => f) htrees hcall hs

set_option tactic.hygienic true in
/-- `return list(left) == []` -/
theorem runsE_ret {it a : Addr} {os : List D} {p : Nat} {fn e : Expr} {cpos pos lpos rpos : Pos} {Q : D → Prop} (hf : Evals prog w K n sx S fn (.d (.raw (.type "list")))) (he : Evals prog w K n sx S e (.d (.raw (.ref it)))) (hp : os.length ≤ p) (h : Q (.bool true))
    (htrees : ∀ env, backTo cpos (starEach [e] env) = [(false, eval e env)] := by intro _; rfl)
    (hcall : ∀ env, eval (.Call fn [e] [] cpos) env = (do callWith cpos (← eval fn env) [] (backTo cpos (starEach [e] env)) (backToKw cpos (keywordEach [] env))) := by intro _; rfl) :
    RunsE prog w K n sx S it a os p [.Return (some (.Compare (.Call fn [e] [] cpos) [.Eq] [.List [] lpos] pos)) rpos] Q := by
  intro A c G ad s R C hsc st g hn
  refine wpAny_execs_cons ?_
  refine wpAny_Return_some (wpAny_Compare1 ?_ (by rfl))
  refine Call_ (wpg (hf A c G ad s R C hsc st) fun fv s₁ G₁ g₁ e₁ => ?_) (hcall _)
  (first | obtain rfl := Is.inv e₁ | obtain ⟨_, rfl⟩ := Is.inv e₁)
  have st₁ := st.step C g₁
  have t₁ : Step c G ad S s G₁ ad S s₁ := g₁.step
  rw [htrees]
  refine callWith_type1 (wpg (he A c G₁ ad s₁ R C hsc st₁) fun y s₂ G₂ g₂ e₂ => ?_)
  (first | obtain rfl := Is.inv e₂ | obtain ⟨_, rfl⟩ := Is.inv e₂)
  have st₂ := st₁.step C g₂
  have t₂ : Step c G₁ ad S s₁ G₂ ad S s₂ := g₂.step
  have gst := (g.step t₁).step t₂
  obtain ⟨ol, vs, kk, l1, l2, l3, l4⟩ := gst.lst
  have hl : s₂.heap.IsList a vs := ⟨ol, st₂.sub _ _ l1, l2, kk, l3⟩
  have hvl : vs.size = os.length := by have := l4.length; simpa using this
  refine call_list_iter_end R.handled gst.pos hl (by rw [Array.getElem?_eq_none]; exact (lin [_, _, _] (.v 0) (.v 1) (.s 1 (.v 2) (.v 1) (.e 1 0 (.v 0) (.v 2) .z)) rfl hp hvl)) fun h' k hk hS => ?_
  have kk' : ∀ b o, b ∉ [it] → s₂.heap.get? b = some o → h'.get? b = some o := fun b o hb e => hk b o (fun q => hb (List.mem_singleton.mpr q)) e
  have nw : New s₂.heap s₂.heap.objs.size := new_size _
  have st₃ : St c G₂ ad S { s₂ with heap := h' } := st₂.walk C (wr := [it]) (t := s₂.toks) (fun b hb => by rw [List.mem_singleton.mp hb]; exact ⟨hn, gst.g, gst.own⟩) kk'
  have st₄ : St c (G₂.put s₂.heap.objs.size { cls := .type "list", data := .seq #[] k }) ad S { s₂ with heap := h' } := by
    refine st₃.more (PH.put_le _ st₂.sub nw) (fun b o e => ?_) fun b o e => ?_
    · unfold PH.put at e
      split at e
      · rename_i hb; subst hb; cases e; exact hS
      · exact st₃.sub b o e
    · unfold PH.put at e
      split at e
      · rename_i hb; subst hb
        refine .inr ⟨st₂.new nw, fun q => ?_⟩
        obtain ⟨o', e'⟩ := st₂.ownThere q
        exact absurd rfl (nw.ne e')
      · exact .inl e
  have t₄ : Stp [it] c G₂ ad S s₂ (G₂.put s₂.heap.objs.size { cls := .type "list", data := .seq #[] k }) ad S { s₂ with heap := h' } := by
    refine ⟨fun b o e _ h2 => kk' b o h2 e, fun _ h => .inl h, PH.put_le _ st₂.sub nw, fun b o e => ?_⟩
    unfold PH.put at e
    split at e
    · rename_i hb; subst hb; exact .inr (.inr (.inr nw))
    · exact .inl e
  refine wpg (ev_list (ds := []) (pos := lpos) evl_nil (by simp) A c _ ad _ R C hsc st₄) fun y s₅ G₅ g₅ e₅ => ?_
  have st₅ := st₄.step C g₅
  refine wpg (op_eq_list_nil (prog := prog) (w := w) (n := n) (l := []) A [tabA] G₅ s₅ _ y R st₅.sub (.list (g₅.le _ _ (PH.put_self _ _ _)) rfl rfl .nil) e₅) fun z s₆ G₆ g₆ e₆ => ?_
  have st₆ := st₅.step C g₆
  exact ⟨z, .bool true, G₆, ad, S, rfl, st₆, (stp_w (t₁.trans t₂)).trans (t₄.trans (stp_w (g₅.step.trans g₆.step))), e₆, h⟩
end
end Mine
end

-- the text M45
section
open PySem PySem.Calls PySem.W PyProof.Rows
set_option maxRecDepth 100000
namespace Mine
section
variable {prog : Program} {w : World} {n : Nat} {sx : Sx} {S : State} {it a : Addr} {os : List D}

theorem rest_varint {fv : List (Str × V)} {fn e2 : Expr} {cp : Pos} {p o1 o2 o3 : Nat} (hf : Evals prog w (KK w) (n + 1) sx ⟨fv, []⟩ fn (.d (.raw (.ref 38)))) (he : Evals prog w (KK w) (n + 1) sx ⟨fv, []⟩ e2 (.d (.raw (.ref it)))) (hd : ∀ y v, fv.lookup y = some v → ∃ z, v = .d z)
    (h1 : os[p]? = some (dz o1)) (h2 : os[p + 1]? = some (dz o2)) (h3 : os[p + 2]? = some (dz o3)) (b1 : o1 / 64 % 2 = 1) (b2 : o2 / 64 % 2 = 1) (b3 : o3 / 64 % 2 = 0)
    (hst : ∀ env, starEach [e2] env = (false, eval e2 env) :: starEach [] env := by intro _; rfl)
    (hcall : ∀ env, eval (.Call fn [e2] [] cp) env = (do callWith cp (← eval fn env) [] (backTo cp (starEach [e2] env)) (backToKw cp (keywordEach [] env))) := by intro _; rfl) :
    RestI prog w (KK w) (n + 1) sx fv it a os p (p + 3) (fun acc env => rest1 (.Call fn [e2] [] cp) [] acc env) (dz (vint o1 o2 o3)) := by
  intro A c G Da acc s vars R C hsc hfv st hz gst
  unfold rest1 testsSem
  refine wpAny_bind (wpAny_tests_nil ?_)
  simp only [if_true]
  refine wpAny_bind ?_
  refine Call_ (wpg (evals_more hf hfv hd A c G [Da] s R C hsc st) fun y s₁ G₁ g₁ e₁ => ?_) (hcall _)
  (first | obtain rfl := Is.inv e₁ | obtain ⟨_, rfl⟩ := Is.inv e₁)
  have st₁ := st.step C g₁
  have gst₁ := gst.step (g₁.step (c := c) (ad := [Da]) (S := ⟨vars, [.list acc]⟩))
  obtain ⟨oc, od, osl, fd, ho⟩ : ∃ (oc : Value) (od : Option Addr) (osl : Array (Option Value)) (fd : FuncData), (KK w).lookup 38 = some ⟨oc, od, .func fd, osl⟩ := ⟨_, _, _, _, by rfl⟩
  refine callWith_def (o := ⟨oc, od, .func fd, osl⟩) (fd := fd) rfl ?_ (hst _)
  rw [hst]
  refine Calls.spliced_cons (wpg (evals_more he hfv hd A c G₁ [Da] s₁ R C hsc st₁) fun y s₂ G₂ g₂ e₂ => ?_)
  (first | obtain rfl := Is.inv e₂ | obtain ⟨_, rfl⟩ := Is.inv e₂)
  refine Calls.spliced_nil ?_
  have st₂ := st₁.step C g₂
  have gst₂ := gst₁.step (g₂.step (c := c) (ad := [Da]) (S := ⟨vars, [.list acc]⟩))
  have T := st₂.top C
  refine ⟨T.obj _ _ ho, wpAny_call (codeAny_mono (spec_varint (n := n) h1 h2 h3 b1 b2 b3 R T st₂.tab st₂.gens st₂.sub (st₂.gt C) (fun a o e => st₂.le a o (C.kg a o e)) gst₂.g gst₂.pos gst₂.lst gst₂.net) fun r s' q => ?_)⟩
  obtain ⟨v, G', rfl, g, hp', hv⟩ := q
  have st' : St c G' [Da] ⟨vars, [.list acc]⟩ s' := by
    rcases gst₂.fresh with z | z
    · exact st₂.grow C g fun b hb => by
        rcases List.mem_cons.mp hb with q | q
        · rw [q]; exact C.tabX
        · rw [List.mem_singleton.mp q]; exact z
    · exact st₂.growJ C g z gst₂.g gst₂.own
  have gG : G' it = none := by
    obtain ⟨o, e⟩ := gst₂.there
    cases q : G' it with
    | none => rfl
    | some o' =>
      rcases g.fresh _ _ q with z | z
      · rw [gst₂.g] at z; cases z
      · exact absurd rfl (z.ne e)
  have gst' : Gst c G' [Da] ⟨vars, [.list acc]⟩ s' it a os (p + 3) := by
    obtain ⟨ol, vs, k, l1, l2, l3, l4⟩ := gst₂.lst
    exact ⟨gst₂.own, gG, hp', ⟨ol, vs, k, g.le _ _ l1, l2, l3, l4.mono g.le⟩, gst₂.fresh, gst₂.net⟩
  have tJ : Stp [it] c G [Da] ⟨vars, [.list acc]⟩ s G' [Da] ⟨vars, [.list acc]⟩ s' := (stp_w ((g₁.step).trans g₂.step)).trans g.stpJ
  refine wpAny_bind (append_ok C st' hv (by exact (lin [_, _] (.v 0) (.v 1) (.s 1 (.a (.v 0) (.n 1)) (.v 1) .z) rfl hz)) fun s'' st'' t => ?_)
  exact wpAny_pure ⟨G', vars, hfv, st'', tJ.trans (stp_w t), gst'.step t⟩

theorem run_files {z x : Str} {zp spos xp pos cp : Pos} {fn e2 iter : Expr} {scope : Scope} {m : Nat} {Q : Fl → State → Nat → Prop} (fv : List (Str × D)) (o : Nat → Nat) (hos : ∀ j, j < 3 * m → os[j]? = some (dz (o j))) (hb : ∀ i, i < m → o (3 * i) / 64 % 2 = 1 ∧ o (3 * i + 1) / 64 % 2 = 1 ∧ o (3 * i + 2) / 64 % 2 = 0)
    (hsrc : Src prog w (KK w) (n + 1) sx S (.Name x xp) iter ((List.range m).map fun i => dz (3 * i))) (so : ScopeOk sx S scope fv) (hm : m ≤ 1000)
    (hf : ∀ d, Evals prog w (KK w) (n + 1) (sxComp sx scope) ⟨(x, V.d d) :: (fv.map fun p => (p.1, V.d p.2)), []⟩ fn (.d (.raw (.ref 38)))) (he : ∀ d, Evals prog w (KK w) (n + 1) (sxComp sx scope) ⟨(x, V.d d) :: (fv.map fun p => (p.1, V.d p.2)), []⟩ e2 (.d (.raw (.ref it))))
    (hsw : ∀ env : Env, env.scope = sx.scope → swapsWith (.ListComp (.Call fn [e2] [] cp) [⟨.Name x xp, iter, [], 0⟩] scope pos) (some (.Name z zp)) spos.line env = pure true)
    (h : Q .next (S.set z (.d (.list ((List.range m).map fun i => dz (vint (o (3 * i)) (o (3 * i + 1)) (o (3 * i + 2))))))) (3 * m))
    (hz : sx.scope.names.lookup z = some .local := by rfl) (hk : (sxComp sx scope).scope.names.lookup x = some .local := by rfl) (hxf : fv.lookup x = none := by rfl)
    (hs : ∀ env x, foldedSetIterable iter env x = pure x := by intro _ _; rfl)
    (hst : ∀ env, starEach [e2] env = (false, eval e2 env) :: starEach [] env := by intro _; rfl)
    (hcall : ∀ env, eval (.Call fn [e2] [] cp) env = (do callWith cp (← eval fn env) [] (backTo cp (starEach [e2] env)) (backToKw cp (keywordEach [] env))) := by intro _; rfl) :
    Run1I prog w (KK w) (n + 1) sx S it a os 0 (.Assign [.Name z zp] (.ListComp (.Call fn [e2] [] cp) [⟨.Name x xp, iter, [], 0⟩] scope pos) spos) Q := by
  have hl : ((List.range m).map fun i => dz (3 * i)).length = m := by simp
  have mem : ∀ {i : Nat} {d : D}, ((List.range m).map fun i => dz (3 * i))[i]? = some d → i < m ∧ d = dz (3 * i) := fun {i d} h => by
    have hlt : i < m := by
      have := (List.getElem?_eq_some_iff.mp h).1
      simpa using this
    rw [List.getElem?_map, List.getElem?_range hlt] at h
    cases h; exact ⟨hlt, rfl⟩
  have key := runI_assign_comp (n := n + 1) (sx := sx) (S := S) (pos' := zp) (spos := spos) (elt := .Call fn [e2] [] cp) (ifs := []) (gs := []) (pos := pos) (it := it) (a := a) (os := os) (ps := fun i => 3 * i) (Q := Q) fv hsrc (es := (List.range m).map fun i => dz (vint (o (3 * i)) (o (3 * i + 1)) (o (3 * i + 2))))
    (loopI (p := iter.pos) (rest := fun acc env => rest1 (.Call fn [e2] [] cp) [] acc env) (upd := fun d => [(x, d)]) (by simp) (fun it acc env => compTurn_1 (.Call fn [e2] [] cp) (.Name x xp) iter [] scope pos it acc env) (fun _ _ _ => rfl) (fun _ _ _ _ => rfl) (fun _ _ _ => rfl) (fun i d h => binds_name hk) (fun i d r h hr => ?_) (fun i d y v h hv => ?_))
    (by rw [sizeLine_eq]; simp; omega) hz (by rw [hl]; exact h) so.kind so.cell so.names so.free so.fv hs hsw
  · exact key
  · obtain ⟨hlt, rfl⟩ := mem h
    have hr' : r = dz (vint (o (3 * i)) (o (3 * i + 1)) (o (3 * i + 2))) := by
      rw [List.getElem?_map, List.getElem?_range hlt] at hr; cases hr; rfl
    subst hr'
    obtain ⟨q1, q2, q3⟩ := hb i hlt
    refine rest_varint (hf _) (he _) (fun y v hy => ?_) (hos _ (by exact (lin [_, _] (.a (.m 3 (.v 0)) (.n 1)) (.m 3 (.v 1)) (.s 3 (.a (.v 0) (.n 1)) (.v 1) .z) rfl hlt))) (hos _ (by exact (lin [_, _] (.a (.a (.m 3 (.v 0)) (.n 1)) (.n 1)) (.m 3 (.v 1)) (.s 3 (.a (.v 0) (.n 1)) (.v 1) .z) rfl hlt))) (hos _ (by exact (lin [_, _] (.a (.a (.m 3 (.v 0)) (.n 2)) (.n 1)) (.m 3 (.v 1)) (.s 3 (.a (.v 0) (.n 1)) (.v 1) .z) rfl hlt))) q1 q2 q3 hst hcall
    rw [List.lookup_append, mapd_lookup, mapd_lookup] at hy
    cases q : ([(x, dz (3 * i))] : List (Str × D)).reverse.lookup y with
    | some u => rw [q] at hy; simp at hy; exact ⟨_, hy.symm⟩
    | none => rw [q] at hy; simp at hy; obtain ⟨z, _, rfl⟩ := hy; exact ⟨_, rfl⟩
  · by_cases hy : y = x
    · subst hy
      rw [mapd_lookup, hxf] at hv; cases hv
    · have : (y == x) = false := beq_eq_false_iff_ne.mpr hy
      simp [List.lookup_cons, this]
end
end Mine
end

-- the text P1
section
set_option maxRecDepth 100000
namespace Mine

/-! the plain law: a pattern with stars -/
abbrev Pt := List (Option RSet)
noncomputable def GP (name : List Nat) : Pt → Nat → Prop
  | [], p => p = name.length
  | some s :: r, p => p < name.length ∧ inSet s (name.getD p 0) = true ∧ GP name r (p + 1)
  | none :: r, p => ∃ k, p ≤ k ∧ k ≤ name.length ∧ GP name r k
noncomputable def Ex (name : List Nat) : List (List RSet) → Nat → Prop
  | [], _ => False
  | [q], p => ∃ k, p ≤ k ∧ lies q name k = true ∧ k + q.length = name.length
  | q :: r, p => ∃ k, p ≤ k ∧ lies q name k = true ∧ Ex name r (k + q.length)

theorem lies_nil (name : List Nat) (p : Nat) : lies [] name p = decide (p ≤ name.length) := by
  simp [lies]
theorem lies_cons (s : RSet) (h : List RSet) (name : List Nat) (p : Nat) : lies (s :: h) name p = true ↔ p < name.length ∧ inSet s (name.getD p 0) = true ∧ lies h name (p + 1) = true := by
  unfold lies
  simp only [Bool.and_eq_true, decide_eq_true_eq, List.all_eq_true, List.mem_range, List.length_cons]
  constructor
  · rintro ⟨h1, h2⟩
    refine ⟨by exact (lin [_, _, _] (.a (.v 0) (.n 1)) (.v 1) (.s 1 (.a (.v 0) (.a (.v 2) (.n 1))) (.v 1) .z) rfl h1), by simpa using h2 0 (by exact (lin [_] (.a (.n 0) (.n 1)) (.a (.v 0) (.n 1)) .z rfl)), by exact (lin [_, _, _] (.a (.a (.v 0) (.n 1)) (.v 1)) (.v 2) (.s 1 (.a (.v 0) (.a (.v 1) (.n 1))) (.v 2) .z) rfl h1), fun k hk => ?_⟩
    have := h2 (k + 1) (by exact (lin [_, _] (.a (.a (.v 0) (.n 1)) (.n 1)) (.a (.v 1) (.n 1)) (.s 1 (.a (.v 0) (.n 1)) (.v 1) .z) rfl hk))
    simpa [show p + (k + 1) = p + 1 + k by exact (lid [_, _] (.a (.v 0) (.a (.v 1) (.n 1))) (.a (.a (.v 0) (.n 1)) (.v 1)) rfl)] using this
  · rintro ⟨h1, h2, h3, h4⟩
    refine ⟨by exact (lin [_, _, _] (.a (.v 0) (.a (.v 1) (.n 1))) (.v 2) (.s 1 (.a (.a (.v 0) (.n 1)) (.v 1)) (.v 2) .z) rfl h3), fun k hk => ?_⟩
    cases k with
    | zero => simpa using h2
    | succ k =>
      have := h4 k (by exact (lin [_, _] (.a (.v 0) (.n 1)) (.v 1) (.s 1 (.a (.a (.v 0) (.n 1)) (.n 1)) (.a (.v 1) (.n 1)) .z) rfl hk))
      simpa [show p + (k + 1) = p + 1 + k by exact (lid [_, _] (.a (.v 0) (.a (.v 1) (.n 1))) (.a (.a (.v 0) (.n 1)) (.v 1)) rfl)] using this

noncomputable def splitP : Pt → List (List RSet)
  | [] => [[]]
  | some s :: r => match splitP r with
    | [] => [[s]]
    | h :: t => (s :: h) :: t
  | none :: r => [] :: splitP r
theorem splitP_ne : ∀ pt : Pt, splitP pt ≠ []
  | [] => by simp [splitP]
  | some s :: r => by
    unfold splitP
    split <;> simp
  | none :: r => by simp [splitP]
noncomputable def Mt (name : List Nat) : List (List RSet) → Nat → Prop
  | [], _ => False
  | [q], p => lies q name p = true ∧ p + q.length = name.length
  | q :: r, p => lies q name p = true ∧ Ex name r (p + q.length)
theorem Ex_eq (name : List Nat) : ∀ (ps : List (List RSet)) (p : Nat), Ex name ps p ↔ ∃ k, p ≤ k ∧ k ≤ name.length ∧ Mt name ps k
  | [], p => by simp [Ex, Mt]
  | [q], p => by
    unfold Ex Mt
    constructor
    · rintro ⟨k, h1, h2, h3⟩; exact ⟨k, h1, by have := lies_len h2; exact (lin [_, _, _] (.v 0) (.v 1) (.e 1 0 (.a (.v 0) (.v 2)) (.v 1) .z) rfl h3), h2, h3⟩
    · rintro ⟨k, h1, _, h2, h3⟩; exact ⟨k, h1, h2, h3⟩
  | q :: r :: t, p => by
    unfold Ex Mt
    constructor
    · rintro ⟨k, h1, h2, h3⟩; exact ⟨k, h1, by have := lies_len h2; exact (lin [_, _, _] (.v 0) (.v 1) (.s 1 (.a (.v 0) (.v 2)) (.v 1) .z) rfl this), h2, h3⟩
    · rintro ⟨k, h1, _, h2, h3⟩; exact ⟨k, h1, h2, h3⟩
theorem Mt_cons (name : List Nat) (s : RSet) (h : List RSet) (t : List (List RSet)) (p : Nat) : Mt name ((s :: h) :: t) p ↔ p < name.length ∧ inSet s (name.getD p 0) = true ∧ Mt name (h :: t) (p + 1) := by
  cases t with
  | nil =>
    show (lies (s :: h) name p = true ∧ p + (s :: h).length = name.length) ↔ p < name.length ∧ inSet s (name.getD p 0) = true ∧ (lies h name (p + 1) = true ∧ p + 1 + h.length = name.length)
    rw [lies_cons, List.length_cons]
    constructor
    · rintro ⟨⟨h1, h2, h3⟩, h4⟩; exact ⟨h1, h2, h3, by exact (Nat.le_antisymm (lin [_, _, _] (.a (.a (.v 0) (.n 1)) (.v 1)) (.v 2) (.e 1 0 (.a (.v 0) (.a (.v 1) (.n 1))) (.v 2) .z) rfl h4) (lin [_, _, _] (.v 0) (.a (.a (.v 1) (.n 1)) (.v 2)) (.e 0 1 (.a (.v 1) (.a (.v 2) (.n 1))) (.v 0) .z) rfl h4))⟩
    · rintro ⟨h1, h2, h3, h4⟩; exact ⟨⟨h1, h2, h3⟩, by exact (Nat.le_antisymm (lin [_, _, _] (.a (.v 0) (.a (.v 1) (.n 1))) (.v 2) (.e 1 0 (.a (.a (.v 0) (.n 1)) (.v 1)) (.v 2) .z) rfl h4) (lin [_, _, _] (.v 0) (.a (.v 1) (.a (.v 2) (.n 1))) (.e 0 1 (.a (.a (.v 1) (.n 1)) (.v 2)) (.v 0) .z) rfl h4))⟩
  | cons u t =>
    show (lies (s :: h) name p = true ∧ Ex name (u :: t) (p + (s :: h).length)) ↔ p < name.length ∧ inSet s (name.getD p 0) = true ∧ (lies h name (p + 1) = true ∧ Ex name (u :: t) (p + 1 + h.length))
    rw [lies_cons, List.length_cons, show p + (h.length + 1) = p + 1 + h.length by exact (lid [_, _] (.a (.v 0) (.a (.v 1) (.n 1))) (.a (.a (.v 0) (.n 1)) (.v 1)) rfl)]
    constructor
    · rintro ⟨⟨h1, h2, h3⟩, h4⟩; exact ⟨h1, h2, h3, h4⟩
    · rintro ⟨h1, h2, h3, h4⟩; exact ⟨⟨h1, h2, h3⟩, h4⟩
theorem GP_split (name : List Nat) : ∀ (pt : Pt) (p : Nat), p ≤ name.length → (GP name pt p ↔ Mt name (splitP pt) p)
  | [], p, hp => by
    show p = name.length ↔ (lies [] name p = true ∧ p + ([] : List RSet).length = name.length)
    rw [lies_nil]
    simp
    intro h; omega
  | some s :: r, p, hp => by
    have e : Mt name (splitP (some s :: r)) p ↔ p < name.length ∧ inSet s (name.getD p 0) = true ∧ Mt name (splitP r) (p + 1) := by
      conv => lhs; unfold splitP
      cases hq : splitP r with
      | nil => exact absurd hq (splitP_ne r)
      | cons h t => exact Mt_cons name s h t p
    rw [e]
    unfold GP
    constructor
    · rintro ⟨h1, h2, h3⟩; exact ⟨h1, h2, (GP_split name r (p + 1) h1).mp h3⟩
    · rintro ⟨h1, h2, h3⟩; exact ⟨h1, h2, (GP_split name r (p + 1) h1).mpr h3⟩
  | none :: r, p, hp => by
    have e : Mt name (splitP (none :: r)) p ↔ ∃ k, p ≤ k ∧ k ≤ name.length ∧ Mt name (splitP r) k := by
      have e1 : splitP (none :: r) = [] :: splitP r := rfl
      rw [e1]
      cases hq : splitP r with
      | nil => exact absurd hq (splitP_ne r)
      | cons h t =>
        show (lies [] name p = true ∧ Ex name (h :: t) (p + 0)) ↔ _
        rw [lies_nil, Nat.add_zero, Ex_eq]
        simp [hp]
    rw [e]
    unfold GP
    constructor
    · rintro ⟨k, h1, h2, h3⟩; exact ⟨k, h1, h2, (GP_split name r k h2).mp h3⟩
    · rintro ⟨k, h1, h2, h3⟩; exact ⟨k, h1, h2, (GP_split name r k h2).mpr h3⟩

/-! the greedy search -/
theorem findAt_spec (s : List RSet) (name : List Nat) : ∀ (f p : Nat), p + f = name.length + 1 →
    (findAt s name f p = none ∧ ∀ k, p ≤ k → lies s name k = false) ∨ ∃ q, findAt s name f p = some q ∧ p ≤ q ∧ lies s name q = true ∧ ∀ k, p ≤ k → k < q → lies s name k = false
  | 0, p, h => by
    left
    refine ⟨rfl, fun k hk => ?_⟩
    cases hq : lies s name k with
    | false => rfl
    | true => have := lies_len hq; lia
  | f + 1, p, h => by
    rw [findAt_succ]
    cases hp : lies s name p with
    | true =>
      right
      exact ⟨p, by simp, Nat.le_refl _, hp, fun k h1 h2 => by lia⟩
    | false =>
      simp only [Bool.false_eq_true, if_false]
      by_cases hn : name.length < p + 1
      · rw [if_pos hn]
        left
        refine ⟨rfl, fun k hk => ?_⟩
        rcases Nat.eq_or_lt_of_le hk with e | e
        · subst e; exact hp
        · cases hq : lies s name k with
          | false => rfl
          | true => have := lies_len hq; lia
      · rw [if_neg hn]
        rcases findAt_spec s name f (p + 1) (by exact (Nat.le_antisymm (lin [_, _, _] (.a (.a (.v 0) (.n 1)) (.v 1)) (.a (.v 2) (.n 1)) (.e 1 0 (.a (.v 0) (.a (.v 1) (.n 1))) (.a (.v 2) (.n 1)) .z) rfl h) (lin [_, _, _] (.a (.v 0) (.n 1)) (.a (.a (.v 1) (.n 1)) (.v 2)) (.e 0 1 (.a (.v 1) (.a (.v 2) (.n 1))) (.a (.v 0) (.n 1)) .z) rfl h))) with ⟨h1, h2⟩ | ⟨q, h1, h2, h3, h4⟩
        · left
          refine ⟨h1, fun k hk => ?_⟩
          rcases Nat.eq_or_lt_of_le hk with e | e
          · subst e; exact hp
          · exact h2 k e
        · right
          refine ⟨q, h1, by exact (lin [_, _] (.v 0) (.v 1) (.s 1 (.a (.v 0) (.n 1)) (.v 1) .z) rfl h2), h3, fun k hk1 hk2 => ?_⟩
          rcases Nat.eq_or_lt_of_le hk1 with e | e
          · subst e; exact hp
          · exact h4 k e hk2
theorem Ex_mono (name : List Nat) : ∀ (ps : List (List RSet)) (p q : Nat), p ≤ q → Ex name ps q → Ex name ps p
  | [], _, _, _, h => h
  | [s], p, q, hpq, ⟨k, h1, h2⟩ => ⟨k, by exact (lin [_, _, _] (.v 0) (.v 1) (.s 1 (.v 0) (.v 2) (.s 1 (.v 2) (.v 1) .z)) rfl hpq h1), h2⟩
  | s :: t :: r, p, q, hpq, ⟨k, h1, h2⟩ => ⟨k, by exact (lin [_, _, _] (.v 0) (.v 1) (.s 1 (.v 0) (.v 2) (.s 1 (.v 2) (.v 1) .z)) rfl hpq h1), h2⟩
theorem mid_spec (name : List Nat) (last : List RSet) : ∀ (mids : List (List RSet)) (p : Nat), p ≤ name.length →
    (Ex name (mids ++ [last]) p ↔ (match midLoop name mids p with
      | none => false
      | some q => decide (q + last.length ≤ name.length) && lies last name (name.length - last.length)) = true)
  | [], p, hp => by
    show (∃ k, p ≤ k ∧ lies last name k = true ∧ k + last.length = name.length) ↔ (decide (p + last.length ≤ name.length) && lies last name (name.length - last.length)) = true
    rw [Bool.and_eq_true, decide_eq_true_eq]
    constructor
    · rintro ⟨k, h1, h2, h3⟩
      exact ⟨by exact (lin [_, _, _, _] (.a (.v 0) (.v 1)) (.v 2) (.s 1 (.v 0) (.v 3) (.e 1 0 (.a (.v 3) (.v 1)) (.v 2) .z)) rfl h1 h3), by rw [show name.length - last.length = k by exact (Nat.le_antisymm (lin [_, _, _, _] (.v 0) (.v 1) (.e 0 1 (.a (.v 1) (.v 2)) (.v 3) (.e 1 0 (.a (.v 0) (.v 2)) (.v 3) .z)) rfl h3 (Nat.sub_add_cancel (lin [_, _, _] (.v 0) (.v 1) (.e 1 0 (.a (.v 2) (.v 0)) (.v 1) .z) rfl h3))) (lin [_, _, _, _] (.v 0) (.v 1) (.e 1 0 (.a (.v 0) (.v 2)) (.v 3) (.s 1 (.v 3) (.a (.v 1) (.v 2)) .z)) rfl h3 (subx _ _)))]; exact h2⟩
    · rintro ⟨h1, h2⟩
      exact ⟨name.length - last.length, by exact (lin [_, _, _, _] (.v 0) (.v 1) (.s 1 (.a (.v 0) (.v 2)) (.v 3) (.s 1 (.v 3) (.a (.v 1) (.v 2)) .z)) rfl h1 (subx _ _)), h2, by exact (Nat.le_antisymm (lin [_, _, _] (.a (.v 0) (.v 1)) (.v 2) (.e 1 0 (.a (.v 0) (.v 1)) (.v 2) .z) rfl (Nat.sub_add_cancel (lin [_, _, _] (.v 0) (.v 1) (.s 1 (.a (.v 2) (.v 0)) (.v 1) .z) rfl h1))) (lin [_, _, _] (.v 0) (.a (.v 1) (.v 2)) (.s 1 (.v 0) (.a (.v 1) (.v 2)) .z) rfl (subx _ _)))⟩
  | s :: r, p, hp => by
    have hne : ∃ t u, r ++ [last] = t :: u := by cases r with | nil => exact ⟨_, _, rfl⟩ | cons a b => exact ⟨_, _, rfl⟩
    obtain ⟨t, u, htu⟩ := hne
    have e0 : Ex name (s :: r ++ [last]) p ↔ ∃ k, p ≤ k ∧ lies s name k = true ∧ Ex name (r ++ [last]) (k + s.length) := by
      rw [List.cons_append, htu]; exact Iff.rfl
    rw [e0]
    show _ ↔ (match (match findAt s name (name.length + 1 - p) p with | none => none | some q => midLoop name r (q + s.length)) with
      | none => false
      | some q => decide (q + last.length ≤ name.length) && lies last name (name.length - last.length)) = true
    rcases findAt_spec s name (name.length + 1 - p) p (by exact (Nat.le_antisymm (lin [_, _, _] (.a (.v 0) (.v 1)) (.a (.v 2) (.n 1)) (.e 1 0 (.a (.v 1) (.v 0)) (.a (.v 2) (.n 1)) .z) rfl (Nat.sub_add_cancel (lin [_, _] (.v 0) (.a (.v 1) (.n 1)) (.s 1 (.v 0) (.v 1) .z) rfl hp))) (lin [_, _, _] (.a (.v 0) (.n 1)) (.a (.v 1) (.v 2)) (.s 1 (.a (.v 0) (.n 1)) (.a (.v 2) (.v 1)) .z) rfl (subx _ _)))) with ⟨h1, h2⟩ | ⟨q, h1, h2, h3, h4⟩
    · rw [h1]
      constructor
      · rintro ⟨k, k1, k2, _⟩; rw [h2 k k1] at k2; cases k2
      · intro h; cases h
    · rw [h1]
      have hq := lies_len h3
      have ih := mid_spec name last r (q + s.length) (by omega)
      refine Iff.trans ?_ ih
      constructor
      · rintro ⟨k, k1, k2, k3⟩
        refine Ex_mono name _ _ _ ?_ k3
        rcases Nat.lt_or_ge k q with z | z
        · rw [h4 k k1 z] at k2; cases k2
        · exact (lin [_, _, _] (.a (.v 0) (.v 1)) (.a (.v 2) (.v 1)) (.s 1 (.v 0) (.v 2) .z) rfl z)
      · intro h; exact ⟨q, h2, h3, h⟩
theorem takes_Mt (name : List Nat) : ∀ (ps : List (List RSet)), ps ≠ [] → (takes ps name = true ↔ Mt name ps 0)
  | [], h => absurd rfl h
  | [q], _ => by
    unfold takes Mt
    simp only [List.getD_cons_zero, List.length_cons, List.length_nil, Nat.zero_add]
    cases lies q name 0 <;> simp
  | q :: r :: t, _ => by
    obtain ⟨mids, last, e⟩ : ∃ mids last, r :: t = mids ++ [last] := ⟨(r :: t).dropLast, (r :: t).getLast (by simp), (List.dropLast_concat_getLast (by simp)).symm⟩
    unfold takes Mt
    have e1 : ((q :: r :: t).drop 1).dropLast = mids := by rw [List.drop_one, List.tail_cons, e, List.dropLast_concat]
    have e2 : (q :: r :: t).getD ((q :: r :: t).length - 1) [] = last := by
      rw [e]; simp [List.getD_eq_getElem?_getD]
    have e3 : ((q :: r :: t).length == 1) = false := by simp
    rw [e1, e2, e3]
    simp only [List.getD_cons_zero, Nat.zero_add]
    cases hq : lies q name 0 with
    | false => simp
    | true =>
      have hql := lies_len hq
      simp only [Bool.not_true, Bool.false_eq_true, if_false, true_and]
      rw [e]
      exact (mid_spec name last mids q.length (by exact (lin [_, _] (.v 0) (.v 1) (.s 1 (.a (.n 0) (.v 0)) (.v 1) .z) rfl hql))).symm
end Mine
end

-- the text P2
section
set_option maxRecDepth 100000
namespace Mine

noncomputable def rset (t : List Nat) : RSet := (rangesOf t).getD []
noncomputable def ptOf (parts : List (Option (List Nat))) : Pt := parts.map (Option.map rset)
noncomputable def ptI (items : List Item) : Pt := items.map fun it => it.part.map rset

theorem pieces_aux : ∀ (parts : List (Option (List Nat))) (d : List (List RSet)) (c : List RSet), ∃ h t, splitP (ptOf parts) = h :: t ∧ (parts.foldl pcStep (d, c)).1 ++ [(parts.foldl pcStep (d, c)).2] = d ++ (c ++ h) :: t
  | [], d, c => ⟨[], [], rfl, by simp⟩
  | none :: r, d, c => by
    obtain ⟨h, t, e1, e2⟩ := pieces_aux r (d ++ [c]) []
    refine ⟨[], h :: t, ?_, ?_⟩
    · show [] :: splitP (ptOf r) = _
      rw [e1]
    · show ((r.foldl pcStep (d ++ [c], [])).1 ++ [(r.foldl pcStep (d ++ [c], [])).2]) = _
      rw [e2]; simp
  | some x :: r, d, c => by
    obtain ⟨h, t, e1, e2⟩ := pieces_aux r d (c ++ [rset x])
    refine ⟨rset x :: h, t, ?_, ?_⟩
    · show (match splitP (ptOf r) with | [] => [[rset x]] | h :: t => (rset x :: h) :: t) = _
      rw [e1]
    · show ((r.foldl pcStep (d, c ++ [rset x])).1 ++ [(r.foldl pcStep (d, c ++ [rset x])).2]) = _
      rw [e2]; simp
theorem pieces_split (parts : List (Option (List Nat))) : piecesOf parts = splitP (ptOf parts) := by
  obtain ⟨h, t, e1, e2⟩ := pieces_aux parts [] []
  rw [e1]
  have e3 : piecesOf parts = [] ++ ([] ++ h) :: t := e2
  rw [e3]; rfl

theorem GP_le (name : List Nat) : ∀ (pt : Pt) (p : Nat), GP name pt p → p ≤ name.length
  | [], p, h => Nat.le_of_eq h
  | some s :: r, p, h => Nat.le_of_lt h.1
  | none :: r, p, ⟨k, h1, h2, _⟩ => Nat.le_trans h1 h2
theorem GP_app (name : List Nat) {R R' : Pt} (h : ∀ p, GP name R p ↔ GP name R' p) : ∀ (A : Pt) (p : Nat), GP name (A ++ R) p ↔ GP name (A ++ R') p
  | [], p => h p
  | some s :: r, p => by
    show (p < name.length ∧ _ ∧ GP name (r ++ R) (p + 1)) ↔ (p < name.length ∧ _ ∧ GP name (r ++ R') (p + 1))
    rw [GP_app name h r (p + 1)]
  | none :: r, p => by
    show (∃ k, p ≤ k ∧ k ≤ name.length ∧ GP name (r ++ R) k) ↔ (∃ k, p ≤ k ∧ k ≤ name.length ∧ GP name (r ++ R') k)
    constructor
    · rintro ⟨k, h1, h2, h3⟩; exact ⟨k, h1, h2, (GP_app name h r k).mp h3⟩
    · rintro ⟨k, h1, h2, h3⟩; exact ⟨k, h1, h2, (GP_app name h r k).mpr h3⟩
theorem GP_star2 (name : List Nat) (R : Pt) (p : Nat) : GP name (none :: none :: R) p ↔ GP name (none :: R) p := by
  constructor
  · rintro ⟨k, h1, h2, k', h3, h4, h5⟩; exact ⟨k', by exact (lin [_, _, _] (.v 0) (.v 1) (.s 1 (.v 0) (.v 2) (.s 1 (.v 2) (.v 1) .z)) rfl h1 h3), h4, h5⟩
  · rintro ⟨k, h1, h2, h3⟩; exact ⟨k, h1, h2, k, Nat.le_refl _, h2, h3⟩
theorem ptOf_app (a b : List (Option (List Nat))) : ptOf (a ++ b) = ptOf a ++ ptOf b := List.map_append
theorem parts_aux (name : List Nat) : ∀ (items : List Item) (acc : List (Option (List Nat))) (p : Nat), GP name (ptOf (items.foldl (fun acc it => pushPart acc it.part) acc)) p ↔ GP name (ptOf acc ++ ptI items) p
  | [], acc, p => by simp [ptI]
  | it :: r, acc, p => by
    rw [List.foldl_cons, parts_aux name r (pushPart acc it.part) p]
    have e : ptI (it :: r) = it.part.map rset :: ptI r := rfl
    rw [e]
    cases hq : it.part with
    | some l =>
      show GP name (ptOf (acc ++ [some l]) ++ ptI r) p ↔ _
      rw [ptOf_app, List.append_assoc]; exact Iff.rfl
    | none =>
      show GP name (ptOf (if acc.getLast? == some none then acc else acc ++ [none]) ++ ptI r) p ↔ GP name (ptOf acc ++ (none :: ptI r)) p
      by_cases hl : acc.getLast? = some none
      · rw [if_pos (beq_iff_eq.mpr hl)]
        obtain ⟨a', rfl⟩ : ∃ a', acc = a' ++ [none] := by
          rcases List.eq_nil_or_concat acc with h | ⟨a', x, h⟩
          · rw [h] at hl; cases hl
          · subst h
            simp at hl
            exact ⟨a', by rw [hl]; simp⟩
        rw [ptOf_app, List.append_assoc, List.append_assoc]
        exact GP_app name (fun p => (GP_star2 name (ptI r) p).symm) (ptOf a') p
      · rw [if_neg (by simpa using hl), ptOf_app, List.append_assoc]; exact Iff.rfl
theorem takes_GP (name : List Nat) (items : List Item) : takes (piecesOf (partsOf items)) name = true ↔ GP name (ptI items) 0 := by
  rw [pieces_split, takes_Mt name _ (splitP_ne _), ← GP_split name _ 0 (Nat.zero_le _)]
  have := parts_aux name items [] 0
  simpa [partsOf, ptOf] using this

/-! blocks -/
noncomputable def HP {W : Type} (fit : W → Nat → Prop) (m : Nat) : List (Option W) → Nat → Prop
  | [], i => i = m
  | some w :: r, i => i < m ∧ fit w i ∧ HP fit m r (i + 1)
  | none :: r, i => ∃ j, i ≤ j ∧ j ≤ m ∧ HP fit m r j
noncomputable def flatW {W : Type} (sets : W → List RSet) : List (Option W) → Pt
  | [] => []
  | some w :: r => (sets w).map some ++ flatW sets r
  | none :: r => none :: flatW sets r
theorem GP_block (name : List Nat) (R : Pt) : ∀ (s : List RSet) (p : Nat), GP name (s.map some ++ R) p ↔ p + s.length ≤ name.length ∧ (∀ q, q < s.length → inSet (s.getD q []) (name.getD (p + q) 0) = true) ∧ GP name R (p + s.length)
  | [], p => by
    simp
    exact fun h => GP_le name R p h
  | x :: s, p => by
    show (p < name.length ∧ inSet x (name.getD p 0) = true ∧ GP name (s.map some ++ R) (p + 1)) ↔ _
    rw [GP_block name R s (p + 1), List.length_cons]
    constructor
    · rintro ⟨h1, h2, h3, h4, h5⟩
      refine ⟨by exact (lin [_, _, _] (.a (.v 0) (.a (.v 1) (.n 1))) (.v 2) (.s 1 (.a (.a (.v 0) (.n 1)) (.v 1)) (.v 2) .z) rfl h3), fun q hq => ?_, by rw [show p + (s.length + 1) = p + 1 + s.length by exact (lid [_, _] (.a (.v 0) (.a (.v 1) (.n 1))) (.a (.a (.v 0) (.n 1)) (.v 1)) rfl)]; exact h5⟩
      cases q with
      | zero => simpa using h2
      | succ q => have := h4 q (by exact (lin [_, _] (.a (.v 0) (.n 1)) (.v 1) (.s 1 (.a (.a (.v 0) (.n 1)) (.n 1)) (.a (.v 1) (.n 1)) .z) rfl hq)); simpa [show p + (q + 1) = p + 1 + q by exact (lid [_, _] (.a (.v 0) (.a (.v 1) (.n 1))) (.a (.a (.v 0) (.n 1)) (.v 1)) rfl)] using this
    · rintro ⟨h1, h2, h3⟩
      refine ⟨by exact (lin [_, _, _] (.a (.v 0) (.n 1)) (.v 1) (.s 1 (.a (.v 0) (.a (.v 2) (.n 1))) (.v 1) .z) rfl h1), by simpa using h2 0 (by exact (lin [_] (.a (.n 0) (.n 1)) (.a (.v 0) (.n 1)) .z rfl)), by exact (lin [_, _, _] (.a (.a (.v 0) (.n 1)) (.v 1)) (.v 2) (.s 1 (.a (.v 0) (.a (.v 1) (.n 1))) (.v 2) .z) rfl h1), fun q hq => ?_, by rw [show p + 1 + s.length = p + (s.length + 1) by exact (lid [_, _] (.a (.a (.v 0) (.n 1)) (.v 1)) (.a (.v 0) (.a (.v 1) (.n 1))) rfl)]; exact h3⟩
      have := h2 (q + 1) (by exact (lin [_, _] (.a (.a (.v 0) (.n 1)) (.n 1)) (.a (.v 1) (.n 1)) (.s 1 (.a (.v 0) (.n 1)) (.v 1) .z) rfl hq))
      simpa [show p + (q + 1) = p + 1 + q by exact (lid [_, _] (.a (.v 0) (.a (.v 1) (.n 1))) (.a (.a (.v 0) (.n 1)) (.v 1)) rfl)] using this
theorem HP_le {W : Type} {fit : W → Nat → Prop} {m : Nat} : ∀ (ws : List (Option W)) (i : Nat), HP fit m ws i → i ≤ m
  | [], i, h => Nat.le_of_eq h
  | some w :: r, i, h => Nat.le_of_lt h.1
  | none :: r, i, ⟨j, h1, h2, _⟩ => Nat.le_trans h1 h2
theorem align {W : Type} {sets : W → List RSet} {fit : W → Nat → Prop} {m L : Nat} {name : List Nat} (hL : 0 < L) (hn : name.length = L * m) : ∀ (ws : List (Option W)) (_hs : ∀ w, some w ∈ ws → (sets w).length = L)
    (_he : ∀ w, some w ∈ ws → ∀ p, p < name.length → inSet ((sets w).getD (L - 1) []) (name.getD p 0) = true → p % L = L - 1)
    (_hf : ∀ w, some w ∈ ws → ∀ i, i < m → (fit w i ↔ ∀ q, q < L → inSet ((sets w).getD q []) (name.getD (L * i + q) 0) = true)),
    (∀ i, i ≤ m → (GP name (flatW sets ws) (L * i) ↔ HP fit m ws i)) ∧ ∀ k, GP name (flatW sets ws) k → ∃ j, k ≤ L * j ∧ HP fit m ws j
  | [], _, _, _ => by
    refine ⟨fun i hi => ?_, fun k hk => ⟨m, ?_, rfl⟩⟩
    · show L * i = name.length ↔ i = m
      rw [hn]
      exact ⟨fun h => Nat.eq_of_mul_eq_mul_left hL h, fun h => by rw [h]⟩
    · have hk' : k = name.length := hk
      exact (lin [_, _, _] (.v 0) (.v 1) (.e 1 0 (.v 2) (.v 1) (.e 1 0 (.v 0) (.v 2) .z)) rfl hn hk')
  | none :: r, hs, he, hf => by
    obtain ⟨a, b⟩ := align hL hn r (fun w hw => hs w (List.mem_cons_of_mem _ hw)) (fun w hw => he w (List.mem_cons_of_mem _ hw)) (fun w hw => hf w (List.mem_cons_of_mem _ hw))
    have key : ∀ k, GP name (none :: flatW sets r) k → ∃ j, k ≤ L * j ∧ HP fit m r j := by
      rintro k ⟨k', h1, h2, h3⟩
      obtain ⟨j, j1, j2⟩ := b k' h3
      exact ⟨j, by exact (lin [_, _, _] (.v 0) (.v 1) (.s 1 (.v 0) (.v 2) (.s 1 (.v 2) (.v 1) .z)) rfl h1 j1), j2⟩
    refine ⟨fun i hi => ⟨fun h => ?_, ?_⟩, fun k hk => ?_⟩
    · obtain ⟨j, j1, j2⟩ := key _ h
      exact ⟨j, Nat.le_of_mul_le_mul_left j1 hL, HP_le r j j2, j2⟩
    · rintro ⟨j, j1, j2, j3⟩
      exact ⟨L * j, Nat.mul_le_mul_left L j1, by rw [hn]; exact Nat.mul_le_mul_left L j2, (a j j2).mpr j3⟩
    · obtain ⟨j, j1, j2⟩ := key _ hk
      exact ⟨j, j1, j, Nat.le_refl _, HP_le r j j2, j2⟩
  | some w :: r, hs, he, hf => by
    obtain ⟨a, b⟩ := align hL hn r (fun w hw => hs w (List.mem_cons_of_mem _ hw)) (fun w hw => he w (List.mem_cons_of_mem _ hw)) (fun w hw => hf w (List.mem_cons_of_mem _ hw))
    have hw := hs w List.mem_cons_self
    have one : ∀ i, i ≤ m → (GP name (flatW sets (some w :: r)) (L * i) ↔ HP fit m (some w :: r) i) := fun i hi => by
      show GP name ((sets w).map some ++ flatW sets r) (L * i) ↔ (i < m ∧ fit w i ∧ HP fit m r (i + 1))
      rw [GP_block, hw, hn, show L * i + L = L * (i + 1) from by rw [Nat.mul_succ]]
      constructor
      · rintro ⟨h1, h2, h3⟩
        have him : i < m := Nat.lt_of_succ_le (Nat.le_of_mul_le_mul_left h1 hL)
        exact ⟨him, (hf w List.mem_cons_self i him).mpr h2, (a (i + 1) him).mp h3⟩
      · rintro ⟨h1, h2, h3⟩
        exact ⟨Nat.mul_le_mul_left L h1, (hf w List.mem_cons_self i h1).mp h2, (a (i + 1) h1).mpr h3⟩
    refine ⟨one, fun k hk => ?_⟩
    have hk' : GP name ((sets w).map some ++ flatW sets r) k := hk
    rw [GP_block, hw] at hk'
    obtain ⟨h1, h2, h3⟩ := hk'
    have hmod := he w List.mem_cons_self (k + (L - 1)) (by exact (lin [_, _, _, _] (.a (.a (.v 0) (.v 1)) (.n 1)) (.v 2) (.s 1 (.a (.v 0) (.v 3)) (.v 2) (.e 1 0 (.a (.v 1) (.n 1)) (.v 3) .z)) rfl h1 (Nat.sub_add_cancel (lin [_] (.n 1) (.v 0) (.s 1 (.a (.n 0) (.n 1)) (.v 0) .z) rfl hL)))) (h2 (L - 1) (by exact (lin [_, _] (.a (.v 0) (.n 1)) (.v 1) (.e 1 0 (.a (.v 0) (.n 1)) (.v 1) .z) rfl (Nat.sub_add_cancel (lin [_] (.n 1) (.v 0) (.s 1 (.a (.n 0) (.n 1)) (.v 0) .z) rfl hL)))))
    have hkL : k % L = 0 := by
      have e1 := Nat.mod_add_div k L
      have e2 : (k + (L - 1)) % L = (k % L + (L - 1)) % L := by rw [Nat.add_mod, Nat.add_mod (k % L)]; simp
      rw [e2] at hmod
      have hlt := Nat.mod_lt k hL
      rcases Nat.eq_zero_or_pos (k % L) with z | z
      · exact z
      · rw [show k % L + (L - 1) = (k % L - 1) + L by exact (Nat.le_antisymm (lin [_, _, _, _] (.a (.v 0) (.v 1)) (.a (.v 2) (.v 3)) (.s 1 (.v 0) (.a (.v 2) (.n 1)) (.e 1 0 (.a (.v 1) (.n 1)) (.v 3) .z)) rfl (subx _ _) (Nat.sub_add_cancel (lin [_] (.n 1) (.v 0) (.s 1 (.a (.n 0) (.n 1)) (.v 0) .z) rfl hL))) (lin [_, _, _, _] (.a (.v 0) (.v 1)) (.a (.v 2) (.v 3)) (.s 1 (.v 1) (.a (.v 3) (.n 1)) (.e 1 0 (.a (.v 0) (.n 1)) (.v 2) .z)) rfl (subx _ _) (Nat.sub_add_cancel (lin [_] (.n 1) (.v 0) (.s 1 (.a (.n 0) (.n 1)) (.v 0) .z) rfl z)))), Nat.add_mod_right, Nat.mod_eq_of_lt (by exact (lin [_, _, _] (.a (.v 0) (.n 1)) (.v 1) (.s 1 (.a (.v 2) (.n 1)) (.v 1) (.s 1 (.v 0) (.v 2) .z)) rfl hlt (Nat.sub_le _ _)))] at hmod
        grind
    have hkd : k = L * (k / L) := by
      have := Nat.mod_add_div k L
      exact (Nat.le_antisymm (lin [_, _, _] (.v 0) (.v 1) (.e 1 0 (.v 2) (.n 0) (.e 0 1 (.a (.v 2) (.v 1)) (.v 0) .z)) rfl hkL this) (lin [_, _, _] (.v 0) (.v 1) (.e 1 0 (.a (.v 2) (.v 0)) (.v 1) .z) rfl this))
    have him : k / L ≤ m := by
      have : L * (k / L) ≤ L * m := by exact (lin [_, _, _, _, _] (.v 0) (.v 1) (.e 1 0 (.v 2) (.v 1) (.s 1 (.a (.v 3) (.v 4)) (.v 2) (.e 0 1 (.v 3) (.v 0) .z))) rfl hn h1 hkd)
      exact Nat.le_of_mul_le_mul_left this hL
    refine ⟨k / L, by exact (lin [_, _] (.v 0) (.v 1) (.e 1 0 (.v 0) (.v 1) .z) rfl hkd), (one _ him).mp ?_⟩
    rw [← hkd]; exact hk

/-! the answers -/
theorem ans_cons (w : Wish) (ws : List Wish) (files : List Nat) : answersOf (w :: ws) files = ansStep files (answersOf ws files) w := by
  unfold answersOf ansFrom
  rw [List.reverse_cons, List.foldl_append]; rfl
theorem ans_HP (files : List Nat) : ∀ (ws : List Wish) (i : Nat), i ≤ files.length → ((answersOf ws files).getD i false = true ↔ HP (fun l i => fits l (files.getD i 0) = true) files.length ws i)
  | [], i, hi => by
    show ((files.map (fun _ => false) ++ [true]).getD i false = true) ↔ i = files.length
    rw [List.getD_eq_getElem?_getD]
    rcases Nat.lt_or_ge i files.length with h | h
    · rw [List.getElem?_append_left (by simpa using h)]
      simp [h]
      exact (fun hq => (lif [_, _] (.s 1 (.a (.v 0) (.n 1)) (.v 1) (.e 0 1 (.v 0) (.v 1) .z)) rfl h hq))
    · have : i = files.length := by exact (Nat.le_antisymm hi h)
      subst this
      rw [List.getElem?_append_right (by simp)]
      simp
  | none :: r, i, hi => by
    have hlen : (answersOf r files).length = files.length + 1 := ansFrom_len files _
    rw [ans_cons]
    show ((List.range (answersOf r files).length).map fun p => ((answersOf r files).drop p).contains true).getD i false = true ↔ ∃ j, i ≤ j ∧ j ≤ files.length ∧ HP _ _ r j
    rw [List.getD_eq_getElem?_getD, List.getElem?_map, List.getElem?_range (by exact (lin [_, _, _] (.a (.v 0) (.n 1)) (.v 1) (.s 1 (.v 0) (.v 2) (.e 0 1 (.v 1) (.a (.v 2) (.n 1)) .z)) rfl hi hlen))]
    simp only [Option.map_some, Option.getD_some, List.contains_iff_mem]
    constructor
    · intro h
      obtain ⟨q, hq, e⟩ := List.mem_iff_getElem.mp h
      rw [List.getElem_drop] at e
      rw [List.length_drop, hlen] at hq
      refine ⟨i + q, by exact (lin [_, _] (.v 0) (.a (.v 0) (.v 1)) .z rfl), by exact (lin [_, _, _, _] (.a (.v 0) (.v 1)) (.v 2) (.s 1 (.a (.v 1) (.n 1)) (.v 3) (.e 1 0 (.a (.v 3) (.v 0)) (.a (.v 2) (.n 1)) .z)) rfl hq (Nat.sub_add_cancel (lin [_, _] (.v 0) (.a (.v 1) (.n 1)) (.s 1 (.v 0) (.v 1) .z) rfl hi))), (ans_HP files r (i + q) (by exact (lin [_, _, _, _] (.a (.v 0) (.v 1)) (.v 2) (.s 1 (.a (.v 1) (.n 1)) (.v 3) (.e 1 0 (.a (.v 3) (.v 0)) (.a (.v 2) (.n 1)) .z)) rfl hq (Nat.sub_add_cancel (lin [_, _] (.v 0) (.a (.v 1) (.n 1)) (.s 1 (.v 0) (.v 1) .z) rfl hi))))).mp ?_⟩
      rw [List.getD_eq_getElem?_getD, List.getElem?_eq_getElem (by exact (lin [_, _, _, _, _] (.a (.a (.v 0) (.v 1)) (.n 1)) (.v 2) (.e 0 1 (.v 2) (.a (.v 3) (.n 1)) (.s 1 (.a (.v 1) (.n 1)) (.v 4) (.e 1 0 (.a (.v 4) (.v 0)) (.a (.v 3) (.n 1)) .z))) rfl hlen hq (Nat.sub_add_cancel (lin [_, _] (.v 0) (.a (.v 1) (.n 1)) (.s 1 (.v 0) (.v 1) .z) rfl hi))))]; exact e
    · rintro ⟨j, h1, h2, h3⟩
      have := (ans_HP files r j h2).mpr h3
      rw [List.getD_eq_getElem?_getD, List.getElem?_eq_getElem (by exact (lin [_, _, _] (.a (.v 0) (.n 1)) (.v 1) (.e 0 1 (.v 1) (.a (.v 2) (.n 1)) (.s 1 (.v 0) (.v 2) .z)) rfl hlen h2))] at this
      refine List.mem_iff_getElem.mpr ⟨j - i, by rw [List.length_drop]; exact (lin [_, _, _, _, _, _] (.a (.v 0) (.n 1)) (.v 1) (.e 0 1 (.v 2) (.a (.v 3) (.n 1)) (.s 1 (.v 4) (.v 3) (.s 1 (.v 2) (.a (.v 1) (.v 5)) (.e 1 0 (.a (.v 0) (.v 5)) (.v 4) .z)))) rfl hlen h2 (subx _ _) (Nat.sub_add_cancel h1)), ?_⟩
      rw [List.getElem_drop]
      simp only [show i + (j - i) = j by exact (Nat.le_antisymm (lin [_, _, _] (.a (.v 0) (.v 1)) (.v 2) (.e 1 0 (.a (.v 1) (.v 0)) (.v 2) .z) rfl (Nat.sub_add_cancel h1)) (lin [_, _, _] (.v 0) (.a (.v 1) (.v 2)) (.s 1 (.v 0) (.a (.v 2) (.v 1)) .z) rfl (subx _ _)))]
      exact this
  | some l :: r, i, hi => by
    have hlen : (answersOf r files).length = files.length + 1 := ansFrom_len files _
    rw [ans_cons]
    show (((List.range files.length).map (fun p => (answersOf r files).getD (p + 1) false && fits l (files.getD p 0)) ++ [false]).getD i false = true) ↔ (i < files.length ∧ fits l (files.getD i 0) = true ∧ HP _ _ r (i + 1))
    rw [List.getD_eq_getElem?_getD]
    rcases Nat.lt_or_ge i files.length with h | h
    · rw [List.getElem?_append_left (by simpa using h), List.getElem?_map, List.getElem?_range h]
      simp only [Option.map_some, Option.getD_some, Bool.and_eq_true]
      rw [ans_HP files r (i + 1) h]
      exact ⟨fun q => ⟨h, q.2, q.1⟩, fun q => ⟨q.2.2, q.2.1⟩⟩
    · have : i = files.length := by exact (Nat.le_antisymm hi h)
      subst this
      rw [List.getElem?_append_right (by simp)]
      simp
theorem HP_shift {W : Type} (fit : W → Nat → Prop) (m p : Nat) (hp : p ≤ m) : ∀ (ws : List (Option W)) (i : Nat), HP (fun w i => fit w (p + i)) (m - p) ws i ↔ HP fit m ws (p + i)
  | [], i => by
    show i = m - p ↔ p + i = m
    lia
  | some w :: r, i => by
    show (i < m - p ∧ fit w (p + i) ∧ HP _ _ r (i + 1)) ↔ (p + i < m ∧ fit w (p + i) ∧ HP fit m r (p + i + 1))
    rw [HP_shift fit m p hp r (i + 1), show p + (i + 1) = p + i + 1 by exact (lid [_, _] (.a (.v 0) (.a (.v 1) (.n 1))) (.a (.a (.v 0) (.v 1)) (.n 1)) rfl)]
    constructor
    · rintro ⟨h1, h2⟩; exact ⟨by exact (lin [_, _, _, _] (.a (.a (.v 0) (.v 1)) (.n 1)) (.v 2) (.s 1 (.a (.v 1) (.n 1)) (.v 3) (.e 1 0 (.a (.v 3) (.v 0)) (.v 2) .z)) rfl h1 (Nat.sub_add_cancel hp)), h2⟩
    · rintro ⟨h1, h2⟩; exact ⟨by exact (lin [_, _, _, _] (.a (.v 0) (.n 1)) (.v 1) (.s 1 (.a (.a (.v 2) (.v 0)) (.n 1)) (.v 3) (.s 1 (.v 3) (.a (.v 1) (.v 2)) .z)) rfl h1 (subx _ _)), h2⟩
  | none :: r, i => by
    constructor
    · rintro ⟨j, h1, h2, h3⟩
      exact ⟨p + j, by exact (lin [_, _, _] (.a (.v 0) (.v 1)) (.a (.v 0) (.v 2)) (.s 1 (.v 1) (.v 2) .z) rfl h1), by exact (lin [_, _, _, _] (.a (.v 0) (.v 1)) (.v 2) (.s 1 (.v 1) (.v 3) (.e 1 0 (.a (.v 3) (.v 0)) (.v 2) .z)) rfl h2 (Nat.sub_add_cancel hp)), (HP_shift fit m p hp r j).mp h3⟩
    · rintro ⟨j, h1, h2, h3⟩
      refine ⟨j - p, by exact (lin [_, _, _, _] (.v 0) (.v 1) (.s 1 (.a (.v 2) (.v 0)) (.v 3) (.s 1 (.v 3) (.a (.v 1) (.v 2)) .z)) rfl h1 (subx _ _)), by exact (lin [_, _, _, _, _] (.v 0) (.v 1) (.s 1 (.v 2) (.v 3) (.s 1 (.v 3) (.a (.v 1) (.v 4)) (.e 1 0 (.a (.v 0) (.v 4)) (.v 2) .z))) rfl h2 (subx _ _) (Nat.sub_add_cancel (lin [_, _, _] (.v 0) (.v 1) (.s 1 (.a (.v 0) (.v 2)) (.v 1) .z) rfl h1))), (HP_shift fit m p hp r (j - p)).mpr ?_⟩
      rw [show p + (j - p) = j by exact (Nat.le_antisymm (lin [_, _, _] (.a (.v 0) (.v 1)) (.v 2) (.e 1 0 (.a (.v 1) (.v 0)) (.v 2) .z) rfl (Nat.sub_add_cancel (lin [_, _, _] (.v 0) (.v 1) (.s 1 (.a (.v 0) (.v 2)) (.v 1) .z) rfl h1))) (lin [_, _, _] (.v 0) (.a (.v 1) (.v 2)) (.s 1 (.v 0) (.a (.v 2) (.v 1)) .z) rfl (subx _ _)))]; exact h3
end Mine
end

-- the text P3
section
set_option maxRecDepth 100000
namespace Mine

noncomputable def outOf (st : List Nat) : List Nat := if st.contains 45 then (match chunkLoop st 5 0 1 [] with | some r => subTxt (joinL [45] ((chunksOf st r).map (repl 45 [92, 45]))) | none => []) else subTxt (repl 92 [92, 92] st)
noncomputable def brk (st : List Nat) : Item := .brk st (outOf st)
noncomputable def dashOkB (st : List Nat) (r : List (List Nat) × Nat) : Bool :=
  (!(st.drop r.2).isEmpty || !r.1.isEmpty) && decide (r.2 ≤ st.length) && (chunksOf st r).all (fun l => !l.contains 92 && !l.isEmpty && decide (l.length ≤ 501)) && decide ((chunksOf st r).length ≤ 10) && decide (r.1.length ≤ 10) &&
    (List.range ((chunksOf st r).length - 1)).all fun k => decide (((chunksOf st r).getD k []).getD (((chunksOf st r).getD k []).length - 1) 0 ≤ ((chunksOf st r).getD (k + 1) []).getD 0 0)
noncomputable def brkOkB (st : List Nat) : Bool :=
  decide (0 < st.length) && st.getD 0 0 != 33 && !st.tail.contains 93 && decide (st.length ≤ 500) && decide (0 < (outOf st).length) && decide ((outOf st).length ≤ 900) && (outOf st).getD 0 0 != 33 && (outOf st).getD 0 0 != 94 && (outOf st).getD 0 0 != 91 &&
    (!st.contains 45 || match chunkLoop st 5 0 1 [] with | none => false | some r => dashOkB st r)
theorem brkOk_of {st : List Nat} (h : brkOkB st = true) : BrkOk st (outOf st) := by
  unfold brkOkB at h
  simp only [Bool.and_eq_true, decide_eq_true_eq, bne_iff_ne, ne_eq, Bool.not_eq_true', Bool.or_eq_true] at h
  obtain ⟨⟨⟨⟨⟨⟨⟨⟨⟨h1, h2⟩, h3⟩, h4⟩, h5⟩, h6⟩, h7⟩, h8⟩, h9⟩, h10⟩ := h
  refine ⟨h1, h2, fun q => ?_, h4, fun q => ?_, fun q => ?_, h5, by omega, h7, h8, h9⟩
  · rw [List.contains_iff_mem.mpr q] at h3; cases h3
  · unfold outOf
    rw [if_neg (by simpa using q)]
  · have hc : st.contains 45 = true := List.contains_iff_mem.mpr q
    rcases h10 with h | h
    · rw [hc] at h; cases h
    · cases hr : chunkLoop st 5 0 1 [] with
      | none => rw [hr] at h; cases h
      | some r =>
        rw [hr] at h
        have h' : dashOkB st r = true := h
        unfold dashOkB at h'
        simp only [Bool.and_eq_true, decide_eq_true_eq, Bool.not_eq_true', Bool.or_eq_true, List.all_eq_true, List.mem_range] at h'
        obtain ⟨⟨⟨⟨⟨d1, d2⟩, d3⟩, d4⟩, d5⟩, d6⟩ := h'
        refine ⟨r, rfl, fun he => ?_, d2, ?_, fun l hl => ?_, d4, d5, fun k hk => d6 k (by exact (lin [_, _, _] (.a (.v 0) (.n 1)) (.v 1) (.s 1 (.a (.a (.v 0) (.n 1)) (.n 1)) (.v 2) (.s 1 (.v 2) (.a (.v 1) (.n 1)) .z)) rfl hk (subx _ _)))⟩
        · rcases d1 with d | d
          · rw [he] at d; cases d
          · intro e; rw [e] at d; cases d
        · unfold outOf; rw [hc, if_pos rfl, hr]
        · obtain ⟨⟨e1, e2⟩, e3⟩ := d3 l hl
          refine ⟨fun m => ?_, fun e => ?_, e3⟩
          · rw [List.contains_iff_mem.mpr m] at e1; cases e1
          · rw [e] at e2; cases e2

noncomputable def Item.set (it : Item) : RSet := (it.part.map rset).getD []
/-- an item that is fit, with its set -/
noncomputable def okItB : Item → Bool
  | .star => true
  | .any => true
  | .lit c => lits.contains c
  | .brk st out => brkOkB st && out == outOf st
theorem okIt_of : ∀ {it : Item}, okItB it = true → it.ok
  | .star, _ => trivial
  | .any, _ => trivial
  | .lit c, h => List.contains_iff_mem.mp h
  | .brk st out, h => by
    unfold okItB at h
    simp only [Bool.and_eq_true, beq_iff_eq] at h
    rw [h.2]; exact brkOk_of h.1
noncomputable def partOkB (it : Item) : Bool := match it.part with
  | none => true
  | some t => (rangesOf t).isSome && decide (t.length ≤ 1000) && decide ((rset t).length ≤ 1000)
noncomputable def goodB (it : Item) : Bool := okItB it && partOkB it

noncomputable def stOf (o : List Nat) : List Nat := (if o.contains 93 then [93] else []) ++ (o.map (· + 128) ++ o.filter (fun x => !(x == 45 || x == 93))) ++ (if o.contains 45 then [45] else [])
theorem bracket_text (o : List Nat) : bracketTxt o = 91 :: (stOf o ++ [93]) := by
  unfold bracketTxt stOf
  cases o.contains 45 <;> simp
set_option tactic.hygienic true in
theorem mem_stOf (o : List Nat) (c : Nat) : (stOf o).contains c = true ↔ c ∈ o ∨ ∃ x ∈ o, x + 128 = c := by
  rw [List.contains_iff_mem]
  unfold stOf
  simp only [List.mem_append, List.mem_map, List.mem_filter]
  constructor
  · rintro ((h | h | h) | h)
    · split at h
      · rename_i q; simp at h; subst h; exact .inl (List.contains_iff_mem.mp q)
      · cases h
    · obtain ⟨x, h1, h2⟩ := h; exact .inr ⟨x, h1, h2⟩
    · exact .inl h.1
    · split at h
      · rename_i q; simp at h; subst h; exact .inl (List.contains_iff_mem.mp q)
      · cases h
  · rintro (h | ⟨x, h1, h2⟩)
    · by_cases e1 : c = 93
      · subst e1
        left; left; rw [if_pos (List.contains_iff_mem.mpr h)]; simp
      · by_cases e2 : c = 45
        · subst e2
          right; rw [if_pos (List.contains_iff_mem.mpr h)]; simp
        · left; right; right
          exact ⟨h, by simp [e1, e2]⟩
    · left; right; left; exact ⟨x, h1, h2⟩
noncomputable def dup (l : List Nat) : RSet := l.map fun x => (x, x)
theorem inSet_dup (l : List Nat) (c : Nat) : inSet (dup l) c = l.contains c := by
  unfold inSet dup
  rw [List.any_map, Bool.eq_iff_iff, List.any_eq_true, List.contains_iff_mem]
  constructor
  · rintro ⟨x, h1, h2⟩
    simp only [Function.comp, Bool.and_eq_true, decide_eq_true_eq] at h2
    rw [show c = x by exact (Nat.le_antisymm h2.2 h2.1)]; exact h1
  · intro h; exact ⟨c, h, by simp⟩
theorem inSet_any (c : Nat) (h : c < 256) : inSet [(0, 255)] c = true := by
  unfold inSet; simp; exact (lin [_] (.v 0) (.n 255) (.s 1 (.a (.v 0) (.n 1)) (.n 256) .z) rfl h)

noncomputable def it1 : Option Nat → Item
  | none => .any
  | some k => brk (stOf (octs ([0, 2, 4, 6].map (k / 8 + ·)) [k % 8] 64))
noncomputable def it2 (a o : Option Nat) : Item := if a.isNone && o.isNone then .any else brk (stOf (octs (seq8 a) (seq8 o) 64))
noncomputable def it3 (g t : Option Nat) : Item := if g.isNone && t.isNone then brk [0, 45, 63, 128, 45, 191] else brk (stOf (octs (seq8 g) (seq8 t) 0))
noncomputable def o8 : List (Option Nat) := none :: (List.range 8).map some
noncomputable def o16 : List (Option Nat) := none :: (List.range 16).map some
theorem mem_o8 {a : Option Nat} (h : ∀ x, a = some x → x < 8) : a ∈ o8 := by
  cases a with
  | none => simp [o8]
  | some x => have := h x rfl; simp [o8]; omega
theorem mem_o16 {a : Option Nat} (h : ∀ x, a = some x → x < 16) : a ∈ o16 := by
  cases a with
  | none => simp [o16]
  | some x => have := h x rfl; simp [o16]; omega
theorem good1 : ∀ k ∈ o16, goodB (it1 k) = true := by decide +kernel
theorem good2 : ∀ a ∈ o8, ∀ o ∈ o8, goodB (it2 a o) = true := by decide +kernel
theorem good3 : ∀ a ∈ o8, ∀ o ∈ o8, goodB (it3 a o) = true := by decide +kernel
theorem set1 : ∀ k ∈ o16, (it1 k).set = match k with | none => [(0, 255)] | some k => dup (stOf (octs ([0, 2, 4, 6].map (k / 8 + ·)) [k % 8] 64)) := by decide +kernel
theorem set2 : ∀ a ∈ o8, ∀ o ∈ o8, (it2 a o).set = if a.isNone && o.isNone then [(0, 255)] else dup (stOf (octs (seq8 a) (seq8 o) 64)) := by decide +kernel
theorem set3 : ∀ a ∈ o8, ∀ o ∈ o8, (it3 a o).set = if a.isNone && o.isNone then [(0, 63), (128, 191)] else dup (stOf (octs (seq8 a) (seq8 o) 0)) := by decide +kernel
end Mine
end

-- the text P4
section
set_option maxRecDepth 100000
namespace Mine

theorem mem_octs (high low : List Nat) (base c : Nat) : c ∈ octs high low base ↔ ∃ h ∈ high, ∃ l ∈ low, base + 8 * h + l = c := by
  unfold octs
  simp only [List.mem_flatMap, List.mem_map]
theorem mem_seq8 (a : Option Nat) (h : Nat) (ha : ∀ x, a = some x → x < 8) : h ∈ seq8 a ↔ h < 8 ∧ (a = none ∨ a = some h) := by
  cases a with
  | none => simp [seq8]
  | some x =>
    have := ha x rfl
    simp [seq8]
    constructor
    · rintro rfl; exact ⟨this, rfl⟩
    · rintro ⟨_, rfl⟩; rfl
theorem mem_oct8 {a o : Option Nat} (ha : ∀ x, a = some x → x < 8) (ho : ∀ x, o = some x → x < 8) (B x : Nat) : B + x ∈ octs (seq8 a) (seq8 o) B ↔ x < 64 ∧ (a = none ∨ a = some (x / 8)) ∧ (o = none ∨ o = some (x % 8)) := by
  rw [mem_octs]
  constructor
  · rintro ⟨h, h1, l, l1, e⟩
    rw [mem_seq8 a h ha] at h1
    rw [mem_seq8 o l ho] at l1
    have e1 : x / 8 = h := by lia
    have e2 : x % 8 = l := by exact (Nat.le_antisymm (lin [_, _, _, _, _, _] (.v 0) (.v 1) (.e 0 1 (.a (.a (.v 2) (.m 8 (.v 3))) (.v 1)) (.a (.v 2) (.v 4)) (.e 0 8 (.v 5) (.v 3) (.e 1 0 (.a (.m 8 (.v 5)) (.v 0)) (.v 4) .z))) rfl e e1 (Nat.div_add_mod _ _)) (lin [_, _, _, _, _, _] (.v 0) (.v 1) (.e 1 0 (.a (.a (.v 2) (.m 8 (.v 3))) (.v 0)) (.a (.v 2) (.v 4)) (.e 8 0 (.v 5) (.v 3) (.e 0 1 (.a (.m 8 (.v 5)) (.v 1)) (.v 4) .z))) rfl e e1 (Nat.div_add_mod _ _)))
    rw [e1, e2]
    exact ⟨by exact (lin [_, _, _, _] (.a (.v 0) (.n 1)) (.n 64) (.s 8 (.a (.v 1) (.n 1)) (.n 8) (.s 1 (.a (.v 2) (.n 1)) (.n 8) (.e 0 1 (.a (.a (.v 3) (.m 8 (.v 1))) (.v 2)) (.a (.v 3) (.v 0)) .z))) rfl h1.1 l1.1 e), h1.2, l1.2⟩
  · rintro ⟨h, h1, h2⟩
    exact ⟨x / 8, (mem_seq8 a _ ha).mpr ⟨by lia, h1⟩, x % 8, (mem_seq8 o _ ho).mpr ⟨by exact (lin [_] (.a (.v 0) (.n 1)) (.n 8) (.s 1 (.a (.v 0) (.n 1)) (.n 8) .z) rfl (Nat.mod_lt _ (Nat.succ_pos 7))), h2⟩, by exact (Nat.le_antisymm (lin [_, _, _, _] (.a (.a (.v 0) (.m 8 (.v 1))) (.v 2)) (.a (.v 0) (.v 3)) (.e 1 0 (.a (.m 8 (.v 1)) (.v 2)) (.v 3) .z) rfl (Nat.div_add_mod _ _)) (lin [_, _, _, _] (.a (.v 0) (.v 1)) (.a (.a (.v 0) (.m 8 (.v 2))) (.v 3)) (.e 0 1 (.a (.m 8 (.v 2)) (.v 3)) (.v 1) .z) rfl (Nat.div_add_mod _ _)))⟩
theorem oct8_range {a o : Option Nat} (ha : ∀ x, a = some x → x < 8) (ho : ∀ x, o = some x → x < 8) {B c : Nat} (h : c ∈ octs (seq8 a) (seq8 o) B) : B ≤ c ∧ c < B + 64 := by
  rw [mem_octs] at h
  obtain ⟨h, h1, l, l1, e⟩ := h
  rw [mem_seq8 a h ha] at h1
  rw [mem_seq8 o l ho] at l1
  exact ⟨(lin [_, _, _, _] (.v 0) (.v 1) (.e 1 0 (.a (.a (.v 0) (.m 8 (.v 2))) (.v 3)) (.v 1) .z) rfl e), (lin [_, _, _, _] (.a (.v 0) (.n 1)) (.a (.v 1) (.n 64)) (.s 8 (.a (.v 2) (.n 1)) (.n 8) (.s 1 (.a (.v 3) (.n 1)) (.n 8) (.e 0 1 (.a (.a (.v 1) (.m 8 (.v 2))) (.v 3)) (.v 0) .z))) rfl h1.1 l1.1 e)⟩
/-- a bracket over octets -/
theorem in_oct8 {a o : Option Nat} (ha : ∀ x, a = some x → x < 8) (ho : ∀ x, o = some x → x < 8) {B x y : Nat} (hB : B ≤ 64) (hx : x < 64) (hy : y < 2) :
    inSet (dup (stOf (octs (seq8 a) (seq8 o) B))) (B + x + 128 * y) = true ↔ (a = none ∨ a = some (x / 8)) ∧ (o = none ∨ o = some (x % 8)) := by
  rw [inSet_dup, mem_stOf]
  have key := mem_oct8 ha ho B x
  constructor
  · rintro (h | ⟨c, h, e⟩)
    · have := oct8_range ha ho h
      have e : B + x + 128 * y = B + x := by lia
      rw [e] at h
      exact (key.mp h).2
    · have := oct8_range ha ho h
      have e' : c = B + x := by lia
      rw [e'] at h
      exact (key.mp h).2
  · intro h
    have hm := key.mpr ⟨hx, h⟩
    rcases (show y = 0 ∨ y = 1 by lia) with rfl | rfl
    · left; simpa using hm
    · right; exact ⟨B + x, hm, by exact (lid [_, _] (.a (.a (.v 0) (.v 1)) (.n 128)) (.a (.a (.v 0) (.v 1)) (.m 128 (.n 1))) rfl)⟩
theorem all_it1 : ∀ k ∈ o16, ∀ x < 64, ∀ y < 2, inSet (it1 k).set (64 + x + 128 * y) = (k.isNone || k == some (x % 16)) := by decide +kernel
theorem in_it1 {k : Option Nat} (hk : ∀ x, k = some x → x < 16) {x y : Nat} (hx : x < 64) (hy : y < 2) : inSet (it1 k).set (64 + x + 128 * y) = true ↔ (k = none ∨ k = some (x % 16)) := by
  rw [all_it1 k (mem_o16 hk) x hx y hy, Bool.or_eq_true, Option.isNone_iff_eq_none, beq_iff_eq]
theorem in_it2 {a o : Option Nat} (ha : ∀ x, a = some x → x < 8) (ho : ∀ x, o = some x → x < 8) {x y : Nat} (hx : x < 64) (hy : y < 2) : inSet (it2 a o).set (64 + x + 128 * y) = true ↔ (a = none ∨ a = some (x / 8)) ∧ (o = none ∨ o = some (x % 8)) := by
  rw [set2 a (mem_o8 ha) o (mem_o8 ho)]
  by_cases h : (a.isNone && o.isNone) = true
  · rw [if_pos h]
    simp only [Bool.and_eq_true, Option.isNone_iff_eq_none] at h
    rw [h.1, h.2]
    simp only [true_or, and_self, iff_true]
    exact inSet_any _ (by exact (lin [_, _] (.a (.a (.a (.n 64) (.v 0)) (.m 128 (.v 1))) (.n 1)) (.n 256) (.s 1 (.a (.v 0) (.n 1)) (.n 64) (.s 128 (.a (.v 1) (.n 1)) (.n 2) .z)) rfl hx hy))
  · rw [if_neg h]
    exact in_oct8 ha ho (by decide) hx hy
theorem in_it3 {a o : Option Nat} (ha : ∀ x, a = some x → x < 8) (ho : ∀ x, o = some x → x < 8) {x y : Nat} (hx : x < 64) (hy : y < 2) : inSet (it3 a o).set (x + 128 * y) = true ↔ (a = none ∨ a = some (x / 8)) ∧ (o = none ∨ o = some (x % 8)) := by
  rw [set3 a (mem_o8 ha) o (mem_o8 ho)]
  by_cases h : (a.isNone && o.isNone) = true
  · rw [if_pos h]
    simp only [Bool.and_eq_true, Option.isNone_iff_eq_none] at h
    rw [h.1, h.2]
    simp only [true_or, and_self, iff_true]
    unfold inSet
    simp only [List.any_cons, List.any_nil, Bool.or_false, Bool.or_eq_true, Bool.and_eq_true, decide_eq_true_eq]
    lia
  · rw [if_neg h]
    have := in_oct8 ha ho (B := 0) (by decide) hx hy
    rw [Nat.zero_add] at this
    exact this
/-- the third set takes no first and no second octet -/
theorem end_it3 {a o : Option Nat} (ha : ∀ x, a = some x → x < 8) (ho : ∀ x, o = some x → x < 8) {x y : Nat} (hx : x < 64) (hy : y < 2) : inSet (it3 a o).set (64 + x + 128 * y) = false := by
  cases hq : inSet (it3 a o).set (64 + x + 128 * y) with
  | false => rfl
  | true =>
    exfalso
    rw [set3 a (mem_o8 ha) o (mem_o8 ho)] at hq
    by_cases h : (a.isNone && o.isNone) = true
    · rw [if_pos h] at hq
      unfold inSet at hq
      simp only [List.any_cons, List.any_nil, Bool.or_false, Bool.or_eq_true, Bool.and_eq_true, decide_eq_true_eq] at hq
      lia
    · rw [if_neg h, inSet_dup, mem_stOf] at hq
      rcases hq with h | ⟨c, h, e⟩
      · have := oct8_range ha ho h; exact (lif [_, _] (.s 1 (.a (.a (.a (.n 64) (.v 0)) (.m 128 (.v 1))) (.n 1)) (.a (.n 0) (.n 64)) .z) rfl this.2)
      · have := oct8_range ha ho h; lia

/-! a wish's items -/
structure WOk (l : List (Option Nat)) : Prop where
  len : l.length = 5
  k : ∀ x, l.getD 0 none = some x → x < 16 ∧ kindSigns.getD x 0 ≠ 63
  a : ∀ x, l.getD 1 none = some x → x < 8
  o : ∀ x, l.getD 2 none = some x → x < 8
  g : ∀ x, l.getD 3 none = some x → x < 8
  t : ∀ x, l.getD 4 none = some x → x < 8
noncomputable def itO (l : List (Option Nat)) : List Item := [it1 (l.getD 0 none), it2 (l.getD 1 none) (l.getD 2 none), it3 (l.getD 3 none) (l.getD 4 none)]
noncomputable def itemsO (ws : List Wish) : List Item := ws.flatMap fun w => match w with | none => [.star] | some l => itO l
theorem brk_text (o : List Nat) : (brk (stOf o)).text = bracketTxt o := (bracket_text o).symm
theorem itO_text (l : List (Option Nat)) : textOf (itO l) = octTxt (l.getD 0 none) (l.getD 1 none) (l.getD 2 none) (l.getD 3 none) (l.getD 4 none) := by
  have e1 : ∀ k, (it1 k).text = firstTxt k := fun k => by
    cases k with
    | none => rfl
    | some k => exact brk_text _
  have e2 : ∀ a o, (it2 a o).text = secondTxt a o := fun a o => by
    unfold it2 secondTxt
    split
    · rfl
    · exact brk_text _
  have e3 : ∀ a o, (it3 a o).text = thirdTxt a o := fun a o => by
    unfold it3 thirdTxt
    split
    · rfl
    · exact brk_text _
  unfold itO textOf octTxt
  simp only [List.flatMap_cons, List.flatMap_nil, e1, e2, e3, List.append_nil, List.append_assoc]
end Mine
end

-- the text P5
section
set_option maxRecDepth 100000
namespace Mine

noncomputable def kindIt : Option Nat → Item
  | none => .any
  | some k => .lit (kindSigns.getD k 0)
noncomputable def figIts : Option Nat → List Item
  | none => [.any, .any]
  | some f => [if f / 4 == 1 then .lit 114 else .lit 45, if f / 2 % 2 == 1 then .lit 119 else .lit 45]
noncomputable def sgIt (s : List Nat) : Item := if s.length == 4 then .any else if s.length == 1 then .lit (s.getD 0 0) else brk s
noncomputable def partIts (a : Option Nat) (p : Option Nat × Nat × List Nat) : List Item := figIts p.1 ++ [sgIt (sgn p.2.2 (moreOf a p.2.1) (canOf p.1))]
noncomputable def itS (l : List (Option Nat)) : List Item := kindIt (l.getD 0 none) :: ((triples (l.getD 2 none) (l.getD 3 none) (l.getD 4 none)).flatMap (partIts (l.getD 1 none)) ++ [.lit 44])
noncomputable def itemsS (ws : List Wish) : List Item := ws.flatMap fun w => match w with | none => [.star] | some l => itS l
noncomputable def trs : List (Nat × List Nat) := [(4, xS), (2, xS), (1, xT)]
theorem goodK : ∀ k < 16, kindSigns.getD k 0 ≠ 63 → goodB (kindIt (some k)) = true ∧ (kindIt (some k)).set = [(kindSigns.getD k 0, kindSigns.getD k 0)] := by decide +kernel
theorem goodL : goodB (.lit 44) = true ∧ goodB .any = true ∧ goodB .star = true ∧ (Item.lit 44).set = [(44, 44)] ∧ (Item.any).set = [(0, 255)] := by decide +kernel
theorem goodF : ∀ f < 8, ∀ it ∈ figIts (some f), goodB it = true := by decide +kernel
theorem goodS : ∀ a ∈ o8, ∀ f ∈ o8, ∀ tr ∈ trs, goodB (sgIt (sgn tr.2 (moreOf a tr.1) (canOf f))) = true := by decide +kernel
/-- what the three signs of a figure say -/
theorem in_fig : ∀ f ∈ o8, ∀ F < 8, (inSet ((figIts f).getD 0 .star).set (if F / 4 % 2 = 1 then 114 else 45) && inSet ((figIts f).getD 1 .star).set (if F / 2 % 2 = 1 then 119 else 45)) = (match f with | none => true | some f => f / 2 == F / 2) := by decide +kernel
theorem in_sg : ∀ a ∈ o8, ∀ f ∈ o8, ∀ tr ∈ trs, ∀ x < 2, ∀ s < 2, inSet (sgIt (sgn tr.2 (moreOf a tr.1) (canOf f))).set (tr.2.getD (x + 2 * s) 0) = ((match f with | none => true | some f => f % 2 == x) && (match a with | none => true | some a => a / tr.1 % 2 == s)) := by decide +kernel

set_option tactic.hygienic true in
theorem sgTxt_text (s : List Nat) : (sgIt s).text = sgTxt s := by
  unfold sgIt sgTxt
  split
  · rfl
  · split
    · rename_i h
      match s, h with
      | [c], _ => rfl
    · rfl
theorem itS_text (l : List (Option Nat)) : textOf (itS l) = signTxt (l.getD 0 none) (l.getD 1 none) (l.getD 2 none) (l.getD 3 none) (l.getD 4 none) := by
  have e1 : ∀ k, (kindIt k).text = kindTxt k := fun k => by cases k <;> rfl
  have e2 : ∀ f, textOf (figIts f) = figTxt f := fun f => by
    cases f with
    | none => rfl
    | some f =>
      show (if f / 4 == 1 then Item.lit 114 else .lit 45).text ++ ((if f / 2 % 2 == 1 then Item.lit 119 else .lit 45).text ++ []) = (if f / 4 == 1 then [114] else [45]) ++ (if f / 2 % 2 == 1 then [119] else [45])
      split <;> split <;> rfl
  have e3 : ∀ a p, textOf (partIts a p) = partTxt a p := fun a p => by
    unfold partIts partTxt
    rw [← e2]
    simp only [textOf, List.flatMap_append, List.flatMap_cons, List.flatMap_nil, List.append_nil, sgTxt_text]
  unfold itS signTxt
  simp only [textOf, List.flatMap_cons, List.flatMap_append, List.flatMap_nil, List.append_nil, e1]
  have e4 : (fun x => List.flatMap Item.text (partIts (l.getD 1 none) x)) = partTxt (l.getD 1 none) := funext fun p => e3 _ p
  rw [List.flatMap_assoc, e4, List.append_assoc]
  rfl
theorem itS_len (l : List (Option Nat)) : (itS l).length = 11 := by
  have e : ∀ a f tr, (partIts a (f, tr)).length = 3 := fun a f tr => by cases f <;> rfl
  unfold itS triples
  simp [List.flatMap_cons, e]
end Mine
end

-- the text P6
section
set_option maxRecDepth 100000
namespace Mine

theorem and_bit (m j : Nat) : m &&& 2 ^ j = m / 2 ^ j % 2 * 2 ^ j := by
  refine Nat.eq_of_testBit_eq fun i => ?_
  rw [Nat.testBit_and, Nat.testBit_two_pow, Nat.mul_comm, Nat.testBit_two_pow_mul]
  by_cases h : i = j
  · subst h
    simp [Nat.testBit, Nat.shiftRight_eq_div_pow]
  · by_cases h2 : i ≥ j
    · have h3 : m / 2 ^ j % 2 < 2 ^ (i - j) := Nat.lt_of_lt_of_le (Nat.mod_lt _ (by decide)) (by
        have := Nat.pow_le_pow_right (n := 2) (by decide) (show 1 ≤ i - j by lia)
        simpa using this)
      rw [Nat.testBit_lt_two_pow h3]
      simp [Ne.symm h]
    · simp [Ne.symm h, h2]
theorem and_fmt (m : Nat) : m &&& 61440 = m / 4096 % 16 * 4096 := by
  refine Nat.eq_of_testBit_eq fun i => ?_
  rw [Nat.testBit_and, show (61440 : Nat) = 2 ^ 12 * (2 ^ 4 - 1) from rfl, show m / 4096 % 16 * 4096 = 2 ^ 12 * (m / 2 ^ 12 % 2 ^ 4) by simp +arith, Nat.testBit_two_pow_mul, Nat.testBit_two_pow_mul]
  by_cases h : i ≥ 12
  · rw [Nat.testBit_two_pow_sub_one, Nat.testBit_mod_two_pow, Nat.testBit_div_two_pow, show i - 12 + 12 = i by exact (Nat.le_antisymm (lin [_, _] (.a (.v 0) (.n 12)) (.v 1) (.e 1 0 (.a (.v 0) (.n 12)) (.v 1) .z) rfl (Nat.sub_add_cancel h)) (lin [_, _] (.v 0) (.a (.v 1) (.n 12)) (.s 1 (.v 0) (.a (.v 1) (.n 12)) .z) rfl (subx _ _)))]
    simp [h, Bool.and_comm]
  · simp [h]
theorem hit_bit (i m j c : Nat) (hi : i ≠ 0) : hit i m (2 ^ j, c) = (m / 2 ^ j % 2 == 1) := by
  unfold hit
  rw [if_neg (by simpa using hi)]
  show (m &&& 2 ^ j == 2 ^ j) = _
  rw [and_bit]
  have h2 : 0 < 2 ^ j := Nat.two_pow_pos j
  rcases (show m / 2 ^ j % 2 = 0 ∨ m / 2 ^ j % 2 = 1 by lia) with h | h
  · rw [h]; simp; exact (fun hq => (lif [_] (.s 1 (.a (.n 0) (.n 1)) (.v 0) (.e 0 1 (.n 0) (.v 0) .z)) rfl h2 hq))
  · rw [h]; simp
theorem row_one (i m j c : Nat) (hi : i ≠ 0) : rowChar i m [(2 ^ j, c)] = if m / 2 ^ j % 2 = 1 then c else 45 := by
  unfold rowChar
  rw [List.find?_cons, hit_bit i m j c hi]
  by_cases h : m / 2 ^ j % 2 = 1
  · rw [h]; rfl
  · rw [if_neg h, beq_eq_false_iff_ne.mpr h]
    simp [hi]
theorem row_three (i m a b c1 c2 c3 : Nat) (hi : i ≠ 0) (hab : 2 ^ a + 2 ^ b = 2 ^ a ||| 2 ^ b) (hne : a ≠ b) : rowChar i m [(2 ^ a + 2 ^ b, c1), (2 ^ a, c2), (2 ^ b, c3)] = [45, c3, c2, c1].getD (m / 2 ^ b % 2 + 2 * (m / 2 ^ a % 2)) 0 := by
  have h1 : hit i m (2 ^ a + 2 ^ b, c1) = ((m / 2 ^ a % 2 == 1) && (m / 2 ^ b % 2 == 1)) := by
    unfold hit
    rw [if_neg (by simpa using hi)]
    show (m &&& (2 ^ a + 2 ^ b) == 2 ^ a + 2 ^ b) = _
    rw [hab, Nat.and_or_distrib_left, and_bit, and_bit, ← hab]
    have pa : 0 < 2 ^ a := Nat.two_pow_pos a
    have pb : 0 < 2 ^ b := Nat.two_pow_pos b
    rcases (show m / 2 ^ a % 2 = 0 ∨ m / 2 ^ a % 2 = 1 by lia) with h | h <;> rcases (show m / 2 ^ b % 2 = 0 ∨ m / 2 ^ b % 2 = 1 by lia) with k | k
    · rw [h, k]; simp <;> lia
    · rw [h, k]; simp <;> omega
    · rw [h, k]; simp <;> omega
    · rw [h, k]; simp [hab]
  unfold rowChar
  rw [List.find?_cons, h1, List.find?_cons, hit_bit i m a c2 hi, List.find?_cons, hit_bit i m b c3 hi]
  rcases (show m / 2 ^ a % 2 = 0 ∨ m / 2 ^ a % 2 = 1 by lia) with h | h <;> rcases (show m / 2 ^ b % 2 = 0 ∨ m / 2 ^ b % 2 = 1 by lia) with k | k
  · rw [h, k]; simp [hi]
  · rw [h, k]; simp
  · rw [h, k]; simp
  · rw [h, k]; simp
noncomputable def row0 : List (Nat × Nat) := [(40960, 108), (49152, 115), (32768, 45), (24576, 98), (16384, 100), (8192, 99), (4096, 112)]
theorem row_kind (m : Nat) : rowChar 0 m row0 = kindSigns.getD (m / 4096 % 16) 0 := by
  have h : rowChar 0 m row0 = (match row0.find? (fun p => m / 4096 % 16 * 4096 == p.1) with | some p => p.2 | none => 63) := by
    unfold rowChar
    have e : (hit 0 m) = fun p : Nat × Nat => m / 4096 % 16 * 4096 == p.1 := by
      funext p
      unfold hit
      rw [if_pos (by rfl), and_fmt]
    rw [e]; rfl
  rw [h]
  have all : ∀ κ < 16, (match row0.find? (fun p => κ * 4096 == p.1) with | some p => p.2 | none => 63) = kindSigns.getD κ 0 := by decide +kernel
  exact all _ (Nat.mod_lt _ (by decide))
theorem mode_eq (m : Nat) : modeTxt m = [kindSigns.getD (m / 4096 % 16) 0,
    if m / 256 % 2 = 1 then 114 else 45, if m / 128 % 2 = 1 then 119 else 45, xS.getD (m / 64 % 2 + 2 * (m / 2048 % 2)) 0,
    if m / 32 % 2 = 1 then 114 else 45, if m / 16 % 2 = 1 then 119 else 45, xS.getD (m / 8 % 2 + 2 * (m / 1024 % 2)) 0,
    if m / 4 % 2 = 1 then 114 else 45, if m / 2 % 2 = 1 then 119 else 45, xT.getD (m % 2 + 2 * (m / 512 % 2)) 0] := by
  have h : modeTxt m = [rowChar 0 m row0, rowChar 1 m [(2 ^ 8, 114)], rowChar 2 m [(2 ^ 7, 119)], rowChar 3 m [(2 ^ 11 + 2 ^ 6, 115), (2 ^ 11, 83), (2 ^ 6, 120)],
      rowChar 4 m [(2 ^ 5, 114)], rowChar 5 m [(2 ^ 4, 119)], rowChar 6 m [(2 ^ 10 + 2 ^ 3, 115), (2 ^ 10, 83), (2 ^ 3, 120)],
      rowChar 7 m [(2 ^ 2, 114)], rowChar 8 m [(2 ^ 1, 119)], rowChar 9 m [(2 ^ 9 + 2 ^ 0, 116), (2 ^ 9, 84), (2 ^ 0, 120)]] := by rfl
  rw [h, row_kind, row_one _ _ _ _ (by decide), row_one _ _ _ _ (by decide), row_one _ _ _ _ (by decide), row_one _ _ _ _ (by decide), row_one _ _ _ _ (by decide), row_one _ _ _ _ (by decide),
    row_three _ _ _ _ _ _ _ (by decide) (by decide) (by decide), row_three _ _ _ _ _ _ _ (by decide) (by decide) (by decide), row_three _ _ _ _ _ _ _ (by decide) (by decide) (by decide)]
  simp only [Nat.reducePow, Nat.div_one]
  rfl
end Mine
end

-- the text P7
section
set_option maxRecDepth 100000
namespace Mine

theorem upto_zero {p : Nat → Prop} : ∀ q, q < 0 → p q := fun q h => absurd h (Nat.not_lt_zero q)
theorem upto {p : Nat → Prop} {n : Nat} (h : ∀ q, q < n → p q) (hn : p n) : ∀ q, q < n + 1 → p q := fun q hq =>
  (Nat.lt_or_ge q n).elim (h q) fun k => Nat.le_antisymm (Nat.le_of_lt_succ hq) k ▸ hn
theorem d64 {a b : Nat} (h : b < 64) : (a * 64 + b) / 64 = a := by lia
theorem d8a {a b : Nat} (h : b < 64) : (a * 64 + b) / 8 % 8 = b / 8 := by omega
theorem d8b {a b : Nat} (h : b < 64) : (a * 64 + b) % 8 = b % 8 := by lia
theorem dm (m : Nat) : m % 8 / 4 % 2 = m / 4 % 2 ∧ m % 8 / 2 % 2 = m / 2 % 2 ∧ m % 8 % 2 = m % 2 :=
  ⟨(congrArg (· % 2) (Nat.mod_mul_right_div_self m 4 2)).trans (Nat.mod_mod _ _), (congrArg (· % 2) (Nat.mod_mul_right_div_self m 2 4)).trans (Nat.mod_mod_of_dvd _ (by decide)), Nat.mod_mod_of_dvd _ (by decide)⟩
theorem bits8 : ∀ x < 8, ∀ z < 8, (x = z ↔ x / 4 % 2 = z / 4 % 2 ∧ x / 2 % 2 = z / 2 % 2 ∧ x / 1 % 2 = z % 2) := by decide +kernel
theorem bits3 {x y : Nat} (h : x < 8) : x = y % 8 ↔ x / 4 % 2 = y / 4 % 2 ∧ x / 2 % 2 = y / 2 % 2 ∧ x / 1 % 2 = y / 1 % 2 := by
  rw [bits8 x h (y % 8) (Nat.mod_lt _ (by decide)), (dm y).1, (dm y).2.1, (dm y).2.2, Nat.div_one, Nat.div_one]
theorem fig8 : ∀ f < 8, ∀ F < 8, ((f / 2 = F / 2 ∧ f % 2 = F % 2) ↔ f = F) := by decide +kernel
theorem bit_fig {f F : Nat} (h : f < 8) (hF : F < 8) : (f / 2 = F / 2 ∧ f % 2 = F % 2) ↔ f = F := fig8 f h F hF
theorem ddm {m a b c n : Nat} (h : a * b = c) : m / a / b % n = m / c % n := by rw [Nat.div_div_eq_div_mul, h]
theorem fits_iff {l : List (Option Nat)} (h : l.length = 5) (m : Nat) : fits l m = true ↔ (l.getD 0 none = none ∨ l.getD 0 none = some (m / 4096 % 16)) ∧ (l.getD 1 none = none ∨ l.getD 1 none = some (m / 512 % 8)) ∧ (l.getD 2 none = none ∨ l.getD 2 none = some (m / 64 % 8)) ∧ (l.getD 3 none = none ∨ l.getD 3 none = some (m / 8 % 8)) ∧ (l.getD 4 none = none ∨ l.getD 4 none = some (m % 8)) := by
  match l, h with
  | [k, a, o, g, t], _ =>
    show ([(k, m / 4096 % 16), (a, m / 512 % 8), (o, m / 64 % 8), (g, m / 8 % 8), (t, m % 8)] : List (Option Nat × Nat)).all okFig = true ↔ (k = none ∨ _) ∧ (a = none ∨ _) ∧ (o = none ∨ _) ∧ (g = none ∨ _) ∧ (t = none ∨ _)
    simp [okFig]

theorem fit_octets {l : List (Option Nat)} (h : WOk l) {x1 x2 x3 y1 y2 y3 : Nat} (h1 : x1 < 64) (h2 : x2 < 64) (h3 : x3 < 64) (k1 : y1 < 2) (k2 : y2 < 2) (k3 : y3 < 2) :
    (fits l ((x1 * 64 + x2) * 64 + x3) = true) ↔ ∀ q, q < 3 → inSet (((itO l).map Item.set).getD q []) ([64 + x1 + 128 * y1, 64 + x2 + 128 * y2, x3 + 128 * y3].getD q 0) = true := by
  rw [fits_iff h.len]
  have e1 : ((x1 * 64 + x2) * 64 + x3) / 4096 % 16 = x1 % 16 := by rw [← ddm (a := 64) (b := 64) rfl, d64 h3, d64 h2]
  have e2 : ((x1 * 64 + x2) * 64 + x3) / 512 % 8 = x2 / 8 := by rw [← ddm (a := 64) (b := 8) rfl, d64 h3, d8a h2]
  have e3 : ((x1 * 64 + x2) * 64 + x3) / 64 % 8 = x2 % 8 := by rw [d64 h3, d8b h2]
  have e4 : ((x1 * 64 + x2) * 64 + x3) / 8 % 8 = x3 / 8 := d8a h3
  have e5 : ((x1 * 64 + x2) * 64 + x3) % 8 = x3 % 8 := d8b h3
  rw [e1, e2, e3, e4, e5]
  have a1 := in_it1 (k := l.getD 0 none) (fun x q => (h.k x q).1) h1 k1
  have a2 := in_it2 h.a h.o h2 k2
  have a3 := in_it3 h.g h.t h3 k3
  exact ⟨fun q => upto (upto (upto upto_zero (a1.mpr q.1)) (a2.mpr ⟨q.2.1, q.2.2.1⟩)) (a3.mpr q.2.2.2),
    fun hq => ⟨a1.mp (hq 0 (by decide)), (a2.mp (hq 1 (by decide))).1, (a2.mp (hq 1 (by decide))).2, a3.mp (hq 2 (by decide))⟩⟩

noncomputable def figA (f : Option Nat) : Item := (figIts f).getD 0 .star
noncomputable def figB (f : Option Nat) : Item := (figIts f).getD 1 .star
theorem figIts_eq (f : Option Nat) : figIts f = [figA f, figB f] := by cases f <;> rfl
noncomputable def sgI (a f : Option Nat) (tr : Nat × List Nat) : Item := sgIt (sgn tr.2 (moreOf a tr.1) (canOf f))
theorem itS_eq (l : List (Option Nat)) : itS l = [kindIt (l.getD 0 none), figA (l.getD 2 none), figB (l.getD 2 none), sgI (l.getD 1 none) (l.getD 2 none) (4, xS), figA (l.getD 3 none), figB (l.getD 3 none), sgI (l.getD 1 none) (l.getD 3 none) (2, xS), figA (l.getD 4 none), figB (l.getD 4 none), sgI (l.getD 1 none) (l.getD 4 none) (1, xT), .lit 44] := by
  unfold itS triples partIts
  simp only [List.flatMap_cons, List.flatMap_nil, figIts_eq]
  rfl
theorem in_kind {k : Option Nat} (hk : ∀ x, k = some x → x < 16 ∧ kindSigns.getD x 0 ≠ 63) (κ : Nat) (hκ : κ < 16) : inSet (kindIt k).set (kindSigns.getD κ 0) = true ↔ (k = none ∨ k = some κ) := by
  cases k with
  | none =>
    simp only [true_or, iff_true]
    show inSet (Item.any).set _ = true
    rw [goodL.2.2.2.2]
    have : ∀ κ < 16, kindSigns.getD κ 0 < 256 := by decide +kernel
    exact inSet_any _ (this κ hκ)
  | some x =>
    obtain ⟨h1, h2⟩ := hk x rfl
    rw [(goodK x h1 h2).2]
    have : ∀ x < 16, kindSigns.getD x 0 ≠ 63 → ∀ κ < 16, (inSet [(kindSigns.getD x 0, kindSigns.getD x 0)] (kindSigns.getD κ 0) = (x == κ)) := by decide +kernel
    rw [this x h1 h2 κ hκ, beq_iff_eq]
    simp
/-- one figure, with its bit above -/
theorem in_tri {a f : Option Nat} (ha : ∀ x, a = some x → x < 8) (hf : ∀ x, f = some x → x < 8) {tr : Nat × List Nat} (htr : tr ∈ trs) {F s : Nat} (hF : F < 8) (hs : s < 2) :
    (inSet (figA f).set (if F / 4 % 2 = 1 then 114 else 45) = true ∧ inSet (figB f).set (if F / 2 % 2 = 1 then 119 else 45) = true ∧ inSet (sgI a f tr).set (tr.2.getD (F % 2 + 2 * s) 0) = true) ↔ (f = none ∨ f = some F) ∧ (a = none ∨ ∃ x, a = some x ∧ x / tr.1 % 2 = s) := by
  have h1 := in_fig f (mem_o8 hf) F hF
  have h2 := in_sg a (mem_o8 ha) f (mem_o8 hf) tr htr (F % 2) (Nat.mod_lt _ (by decide)) s hs
  rw [← and_assoc, ← Bool.and_eq_true]
  show ((inSet ((figIts f).getD 0 .star).set _ && inSet ((figIts f).getD 1 .star).set _) = true ∧ inSet (sgIt (sgn tr.2 (moreOf a tr.1) (canOf f))).set _ = true) ↔ _
  rw [h1, h2]
  cases f with
  | none => cases a <;> simp
  | some f =>
    have hf' := hf f rfl
    have e : ((f / 2 == F / 2) = true ∧ (f % 2 == F % 2) = true) ↔ f = F := by
      rw [beq_iff_eq, beq_iff_eq]; exact bit_fig hf' hF
    cases a with
    | none =>
      simp only [Bool.and_true, true_or, and_true, reduceCtorEq, false_or, Option.some.injEq]
      exact e
    | some a =>
      simp only [Bool.and_eq_true, reduceCtorEq, false_or, Option.some.injEq, exists_eq_left']
      rw [← and_assoc, e, beq_iff_eq]
theorem fit_signs {l : List (Option Nat)} (h : WOk l) (m : Nat) :
    (fits l m = true) ↔ ∀ q, q < 11 → inSet (((itS l).map Item.set).getD q []) ((modeTxt m ++ [44]).getD q 0) = true := by
  rw [fits_iff h.len, itS_eq, mode_eq]
  have a0 := in_kind h.k (m / 4096 % 16) (Nat.mod_lt _ (by decide))
  have b1 := in_tri (tr := (4, xS)) h.a h.o (by decide) (F := m / 64 % 8) (s := m / 2048 % 2) (Nat.mod_lt _ (by decide)) (Nat.mod_lt _ (by decide))
  have b2 := in_tri (tr := (2, xS)) h.a h.g (by decide) (F := m / 8 % 8) (s := m / 1024 % 2) (Nat.mod_lt _ (by decide)) (Nat.mod_lt _ (by decide))
  have b3 := in_tri (tr := (1, xT)) h.a h.t (by decide) (F := m % 8) (s := m / 512 % 2) (Nat.mod_lt _ (by decide)) (Nat.mod_lt _ (by decide))
  rw [(dm _).1, (dm _).2.1, (dm _).2.2, ddm (c := 256) rfl, ddm (c := 128) rfl] at b1
  rw [(dm _).1, (dm _).2.1, (dm _).2.2, ddm (c := 32) rfl, ddm (c := 16) rfl] at b2
  rw [(dm _).1, (dm _).2.1, (dm _).2.2] at b3
  have habove : (l.getD 1 none = none ∨ l.getD 1 none = some (m / 512 % 8)) ↔ (l.getD 1 none = none ∨ ∃ x, l.getD 1 none = some x ∧ x / 4 % 2 = m / 2048 % 2) ∧ (l.getD 1 none = none ∨ ∃ x, l.getD 1 none = some x ∧ x / 2 % 2 = m / 1024 % 2) ∧ (l.getD 1 none = none ∨ ∃ x, l.getD 1 none = some x ∧ x / 1 % 2 = m / 512 % 2) := by
    cases hq : l.getD 1 none with
    | none => simp
    | some x =>
      have hx := h.a x hq
      simp only [reduceCtorEq, false_or, Option.some.injEq, exists_eq_left']
      rw [bits3 hx, ddm (c := 2048) rfl, ddm (c := 1024) rfl, ddm (c := 512) rfl]
  rw [habove]
  have e44 : inSet (Item.lit 44).set 44 = true := by rw [goodL.2.2.2.1]; decide
  refine ⟨fun q => ?_, fun hq => ?_⟩
  · have c := b1.mpr ⟨q.2.2.1, q.2.1.1⟩
    have d := b2.mpr ⟨q.2.2.2.1, q.2.1.2.1⟩
    have e := b3.mpr ⟨q.2.2.2.2, q.2.1.2.2⟩
    exact upto (upto (upto (upto (upto (upto (upto (upto (upto (upto (upto upto_zero (a0.mpr q.1)) c.1) c.2.1) c.2.2) d.1) d.2.1) d.2.2) e.1) e.2.1) e.2.2) e44
  · have c := b1.mp ⟨hq 1 (by decide), hq 2 (by decide), hq 3 (by decide)⟩
    have d := b2.mp ⟨hq 4 (by decide), hq 5 (by decide), hq 6 (by decide)⟩
    have e := b3.mp ⟨hq 7 (by decide), hq 8 (by decide), hq 9 (by decide)⟩
    exact ⟨a0.mp (hq 0 (by decide)), ⟨c.2, d.2, e.2⟩, c.1, d.1, e.1⟩
theorem mode_len (m : Nat) : (modeTxt m).length = 10 := by rw [mode_eq]; rfl
theorem mode_no44 (m : Nat) (q : Nat) (hq : q < 10) : (modeTxt m).getD q 0 ≠ 44 := by
  revert q
  rw [mode_eq]
  have k1 : ∀ κ < 16, kindSigns.getD κ 0 ≠ 44 := by decide +kernel
  have k2 : ∀ x < 2, ∀ s < 2, xS.getD (x + 2 * s) 0 ≠ 44 ∧ xT.getD (x + 2 * s) 0 ≠ 44 := by decide +kernel
  have m2 : ∀ x, x % 2 < 2 := fun x => Nat.mod_lt _ (by decide)
  have ite : ∀ (c : Prop) [Decidable c] (x y : Nat), x ≠ 44 → y ≠ 44 → (if c then x else y) ≠ 44 := fun c _ x y hx hy => by split <;> assumption
  have b : ∀ (c : Prop) [Decidable c], (if c then 114 else 45) ≠ 44 ∧ (if c then 119 else 45) ≠ 44 := fun c _ => ⟨ite c _ _ (by decide) (by decide), ite c _ _ (by decide) (by decide)⟩
  exact upto (upto (upto (upto (upto (upto (upto (upto (upto (upto upto_zero (k1 _ (Nat.mod_lt _ (by decide)))) (b _).1) (b _).2) (k2 _ (m2 _) _ (m2 _)).1) (b _).1) (b _).2) (k2 _ (m2 _) _ (m2 _)).1) (b _).1) (b _).2) (k2 _ (m2 _) _ (m2 _)).2
end Mine
end

-- the text P8
section
set_option maxRecDepth 100000
namespace Mine

theorem flat_get {L : Nat} : ∀ (bs : List (List Nat)) (_h : ∀ b ∈ bs, b.length = L) (i q : Nat), i < bs.length → q < L → bs.flatten.getD (L * i + q) 0 = (bs.getD i []).getD q 0
  | [], _, i, q, hi, _ => by simp at hi
  | b :: r, h, i, q, hi, hq => by
    have hb := h b List.mem_cons_self
    rw [List.flatten_cons]
    cases i with
    | zero =>
      simp only [List.getD_eq_getElem?_getD, Nat.mul_zero, Nat.zero_add]
      rw [List.getElem?_append_left (by exact (lin [_, _, _] (.a (.v 0) (.n 1)) (.v 1) (.s 1 (.a (.v 0) (.n 1)) (.v 2) (.e 0 1 (.v 1) (.v 2) .z)) rfl hq hb))]; rfl
    | succ i =>
      have ih := flat_get r (fun b hb => h b (List.mem_cons_of_mem _ hb)) i q (by simpa using hi) hq
      rw [show L * (i + 1) + q = b.length + (L * i + q) by rw [hb, Nat.mul_succ]; exact (lid [_, _, _] (.a (.a (.v 0) (.v 1)) (.v 2)) (.a (.v 1) (.a (.v 0) (.v 2))) rfl)]
      simp only [List.getD_eq_getElem?_getD] at ih ⊢
      rw [List.getElem?_append_right (by exact (lin [_, _, _] (.v 0) (.a (.v 0) (.a (.v 1) (.v 2))) .z rfl)), show b.length + (L * i + q) - b.length = L * i + q by exact (Nat.le_antisymm (lin [_, _, _, _] (.v 0) (.a (.v 1) (.v 2)) (.e 1 0 (.a (.v 0) (.v 3)) (.a (.v 3) (.a (.v 1) (.v 2))) .z) rfl (Nat.sub_add_cancel (lin [_, _, _] (.v 0) (.a (.v 0) (.a (.v 1) (.v 2))) .z rfl))) (lin [_, _, _, _] (.a (.v 0) (.v 1)) (.v 2) (.s 1 (.a (.v 3) (.a (.v 0) (.v 1))) (.a (.v 2) (.v 3)) .z) rfl (subx _ _)))]
      exact ih
theorem flat_len {L : Nat} : ∀ (bs : List (List Nat)) (_h : ∀ b ∈ bs, b.length = L), bs.flatten.length = L * bs.length
  | [], _ => by simp
  | b :: r, h => by
    rw [List.flatten_cons, List.length_append, h b List.mem_cons_self, flat_len r fun b hb => h b (List.mem_cons_of_mem _ hb), List.length_cons, Nat.mul_succ]; exact (lid [_, _] (.a (.v 0) (.v 1)) (.a (.v 1) (.v 0)) rfl)
theorem ptI_flatW (its : List (Option Nat) → List Item) (hs : ∀ l, ∀ it ∈ its l, it.part.isSome = true) : ∀ ws : List Wish, ptI (ws.flatMap fun w => match w with | none => [.star] | some l => its l) = flatW (fun l => (its l).map Item.set) ws
  | [] => rfl
  | none :: r => by
    show none :: ptI (r.flatMap _) = none :: flatW _ r
    rw [ptI_flatW its hs r]
  | some l :: r => by
    show ptI (its l ++ r.flatMap _) = ((its l).map Item.set).map some ++ flatW _ r
    have e : ∀ a b, ptI (a ++ b) = ptI a ++ ptI b := fun a b => List.map_append
    rw [e, ptI_flatW its hs r]
    congr 1
    unfold ptI
    rw [List.map_map]
    refine List.map_congr_left fun it hit => ?_
    have := hs l it hit
    unfold Item.set
    cases hq : it.part with
    | none => rw [hq] at this; cases this
    | some t => simp [hq]
/-- one side of the law -/
theorem side {L : Nat} (hL : 0 < L) (its : List (Option Nat) → List Item) (hs : ∀ l, ∀ it ∈ its l, it.part.isSome = true) (hlen : ∀ l, (its l).length = L) {ws : List Wish} {files : List Nat} {blk : Nat → List Nat} (place : Nat) (hp : place ≤ files.length)
    (hb : ∀ i, i < files.length → (blk i).length = L)
    (he : ∀ l, some l ∈ ws → ∀ i, i < files.length → ∀ q, q < L → inSet (((its l).map Item.set).getD (L - 1) []) ((blk i).getD q 0) = true → q = L - 1)
    (hf : ∀ l, some l ∈ ws → ∀ i, i < files.length → (fits l (files.getD i 0) = true ↔ ∀ q, q < L → inSet (((its l).map Item.set).getD q []) ((blk i).getD q 0) = true)) :
    takes (piecesOf (partsOf (ws.flatMap fun w => match w with | none => [.star] | some l => its l))) (((List.range (files.length - place)).map fun i => blk (place + i)).flatten) = (answersOf ws files).getD place false := by
  rw [Bool.eq_iff_iff, takes_GP, ptI_flatW its hs, ans_HP files ws place hp]
  have hbl : ∀ b ∈ ((List.range (files.length - place)).map fun i => blk (place + i)), b.length = L := fun b hm => by
    obtain ⟨i, hi, rfl⟩ := List.mem_map.mp hm
    have := List.mem_range.mp hi
    exact hb _ (by exact (lin [_, _, _, _] (.a (.a (.v 0) (.v 1)) (.n 1)) (.v 2) (.s 1 (.a (.v 1) (.n 1)) (.v 3) (.e 1 0 (.a (.v 3) (.v 0)) (.v 2) .z)) rfl this (Nat.sub_add_cancel hp)))
  have hnl := flat_len _ hbl
  rw [List.length_map, List.length_range] at hnl
  have hget : ∀ i q, i < files.length - place → q < L → (((List.range (files.length - place)).map fun i => blk (place + i)).flatten).getD (L * i + q) 0 = (blk (place + i)).getD q 0 := fun i q hi hq => by
    rw [flat_get _ hbl i q (by simpa using hi) hq]
    congr 1
    rw [List.getD_eq_getElem?_getD, List.getElem?_map, List.getElem?_range hi]; rfl
  have key := (align (sets := fun l => (its l).map Item.set) (fit := fun l i => fits l (files.getD (place + i) 0) = true) (m := files.length - place) hL hnl ws (fun l _ => by rw [List.length_map]; exact hlen l) (fun l hl p hlt hin => ?_) (fun l hl i hi => ?_)).1 0 (Nat.zero_le _)
  · rw [Nat.mul_zero] at key
    rw [key]
    exact HP_shift (fun l i => fits l (files.getD i 0) = true) files.length place hp ws 0
  · have hpl : p = L * (p / L) + p % L := (Nat.div_add_mod p L).symm
    have hq := Nat.mod_lt p hL
    have hi : p / L < files.length - place := by
      rw [hnl] at hlt
      exact Nat.div_lt_of_lt_mul hlt
    rw [hpl, hget _ _ hi hq] at hin
    exact he l hl (place + p / L) (by exact (lin [_, _, _, _] (.a (.a (.v 0) (.v 1)) (.n 1)) (.v 2) (.s 1 (.a (.v 1) (.n 1)) (.v 3) (.e 1 0 (.a (.v 3) (.v 0)) (.v 2) .z)) rfl hi (Nat.sub_add_cancel hp))) _ hq hin
  · rw [hf l hl (place + i) (by exact (lin [_, _, _, _] (.a (.a (.v 0) (.v 1)) (.n 1)) (.v 2) (.s 1 (.a (.v 1) (.n 1)) (.v 3) (.e 1 0 (.a (.v 3) (.v 0)) (.v 2) .z)) rfl hi (Nat.sub_add_cancel hp)))]
    constructor
    · intro h q hq
      rw [hget i q hi hq]; exact h q hq
    · intro h q hq
      have := h q hq
      rw [hget i q hi hq] at this; exact this

/-! the two sides -/
abbrev Trip := Nat × Nat × Nat
noncomputable def octT (t : Trip) : List Nat := [64 + t.1 % 64 + 128 * (t.1 / 64 % 2), 64 + t.2.1 % 64 + 128 * (t.2.1 / 64 % 2), t.2.2 % 64 + 128 * (t.2.2 / 64 % 2)]
noncomputable def fileT (t : Trip) : Nat := (t.1 % 64 * 64 + t.2.1 % 64) * 64 + t.2.2 % 64
noncomputable def rowT (t : Trip) : List Nat := modeTxt (fileT t) ++ [44]
noncomputable def wishT (t : Trip) : List Wish := wishesOf t.1 t.2.1 t.2.2
theorem itO_part (l : List (Option Nat)) : ∀ it ∈ itO l, it.part.isSome = true := by
  intro it hit
  have e1 : ∀ k, (it1 k).part.isSome = true := fun k => by cases k <;> rfl
  have e2 : ∀ a o, (it2 a o).part.isSome = true := fun a o => by unfold it2; split <;> rfl
  have e3 : ∀ a o, (it3 a o).part.isSome = true := fun a o => by unfold it3; split <;> rfl
  unfold itO at hit
  simp only [List.mem_cons, List.not_mem_nil, or_false] at hit
  rcases hit with rfl | rfl | rfl
  · exact e1 _
  · exact e2 _ _
  · exact e3 _ _
theorem itS_part (l : List (Option Nat)) : ∀ it ∈ itS l, it.part.isSome = true := by
  intro it hit
  have e1 : ∀ k, (kindIt k).part.isSome = true := fun k => by cases k <;> rfl
  have e2 : ∀ f, (figA f).part.isSome = true := fun f => by
    cases f with
    | none => rfl
    | some f => show ((if f / 4 == 1 then Item.lit 114 else .lit 45) : Item).part.isSome = true; split <;> rfl
  have e3 : ∀ f, (figB f).part.isSome = true := fun f => by
    cases f with
    | none => rfl
    | some f => show ((if f / 2 % 2 == 1 then Item.lit 119 else .lit 45) : Item).part.isSome = true; split <;> rfl
  have e4 : ∀ a f tr, (sgI a f tr).part.isSome = true := fun a f tr => by unfold sgI sgIt; split; rfl; split <;> rfl
  rw [itS_eq] at hit
  simp only [List.mem_cons, List.not_mem_nil, or_false] at hit
  rcases hit with rfl | rfl | rfl | rfl | rfl | rfl | rfl | rfl | rfl | rfl | rfl
  all_goals first | exact e1 _ | exact e2 _ | exact e3 _ | exact e4 _ _ _ | rfl
theorem getD_map_trip {α : Type} (f : Trip → α) (ts : List Trip) (d : α) {i : Nat} (hi : i < ts.length) : (ts.map f).getD i d = f (ts.getD i (0, 0, 0)) := by
  rw [List.getD_eq_getElem?_getD, List.getElem?_map, List.getD_eq_getElem?_getD, List.getElem?_eq_getElem hi]; rfl
theorem drop_blocks (f : Trip → List Nat) (ts : List Trip) (place : Nat) : ((List.range ((ts.map fileT).length - place)).map fun i => f (ts.getD (place + i) (0, 0, 0))).flatten = (ts.drop place).flatMap f := by
  rw [List.flatMap_def]
  congr 1
  apply List.ext_getElem?
  intro i
  rw [List.length_map]
  by_cases h : i < ts.length - place
  · rw [List.getElem?_map, List.getElem?_range h, List.getElem?_map, List.getElem?_drop, List.getElem?_eq_getElem (by omega)]
    simp [List.getD_eq_getElem?_getD, List.getElem?_eq_getElem (show place + i < ts.length by omega)]
  · rw [List.getElem?_eq_none (by simp; exact (lin [_, _, _, _] (.v 0) (.a (.v 1) (.v 2)) (.s 1 (.v 3) (.v 1) (.s 1 (.v 0) (.a (.v 3) (.v 2)) .z)) rfl (nlt' h) (subx _ _))), List.getElem?_eq_none (by simp; exact (lin [_, _, _, _] (.v 0) (.a (.v 1) (.v 2)) (.s 1 (.v 3) (.v 1) (.s 1 (.v 0) (.a (.v 3) (.v 2)) .z)) rfl (nlt' h) (subx _ _)))]
theorem side_octets {ws : List Wish} (hw : ∀ l, some l ∈ ws → WOk l) (ts : List Trip) (place : Nat) (hp : place ≤ ts.length) :
    takes (piecesOf (partsOf (itemsO ws))) ((ts.drop place).flatMap octT) = (answersOf ws (ts.map fileT)).getD place false := by
  have := side (L := 3) (by decide) itO itO_part (fun _ => rfl) (ws := ws) (files := ts.map fileT) (blk := fun i => octT (ts.getD i (0, 0, 0))) place (by rw [List.length_map]; exact hp) (fun i _ => rfl) (fun l hl i hi q hq hin => ?_) (fun l hl i hi => ?_)
  · rw [drop_blocks octT ts place] at this
    exact this
  · have h := hw l hl
    rcases (show q = 0 ∨ q = 1 ∨ q = 2 by lia) with rfl | rfl | rfl
    · have := end_it3 h.g h.t (x := (ts.getD i (0, 0, 0)).1 % 64) (y := (ts.getD i (0, 0, 0)).1 / 64 % 2) (Nat.mod_lt _ (by decide)) (Nat.mod_lt _ (by decide))
      have hin' : inSet (it3 (l.getD 3 none) (l.getD 4 none)).set (64 + (ts.getD i (0, 0, 0)).1 % 64 + 128 * ((ts.getD i (0, 0, 0)).1 / 64 % 2)) = true := hin
      rw [this] at hin'; cases hin'
    · have := end_it3 h.g h.t (x := (ts.getD i (0, 0, 0)).2.1 % 64) (y := (ts.getD i (0, 0, 0)).2.1 / 64 % 2) (Nat.mod_lt _ (by decide)) (Nat.mod_lt _ (by decide))
      have hin' : inSet (it3 (l.getD 3 none) (l.getD 4 none)).set (64 + (ts.getD i (0, 0, 0)).2.1 % 64 + 128 * ((ts.getD i (0, 0, 0)).2.1 / 64 % 2)) = true := hin
      rw [this] at hin'; cases hin'
    · rfl
  · rw [List.length_map] at hi
    rw [getD_map_trip fileT ts 0 hi]
    exact fit_octets (hw l hl) (Nat.mod_lt _ (by decide)) (Nat.mod_lt _ (by decide)) (Nat.mod_lt _ (by decide)) (Nat.mod_lt _ (by decide)) (Nat.mod_lt _ (by decide)) (Nat.mod_lt _ (by decide))
theorem side_signs {ws : List Wish} (hw : ∀ l, some l ∈ ws → WOk l) (ts : List Trip) (place : Nat) (hp : place ≤ ts.length) :
    takes (piecesOf (partsOf (itemsS ws))) ((ts.drop place).flatMap rowT) = (answersOf ws (ts.map fileT)).getD place false := by
  have := side (L := 11) (by decide) itS itS_part itS_len (ws := ws) (files := ts.map fileT) (blk := fun i => rowT (ts.getD i (0, 0, 0))) place (by rw [List.length_map]; exact hp) (fun i _ => by show (modeTxt _ ++ [44]).length = 11; rw [List.length_append, mode_len]; rfl) (fun l hl i hi q hq hin => ?_) (fun l hl i hi => ?_)
  · rw [drop_blocks rowT ts place] at this
    exact this
  · rcases Nat.lt_or_ge q 10 with h | h
    · exfalso
      rw [itS_eq] at hin
      have hin' : inSet (Item.lit 44).set ((modeTxt (fileT (ts.getD i (0, 0, 0))) ++ [44]).getD q 0) = true := hin
      rw [goodL.2.2.2.1, List.getD_eq_getElem?_getD, List.getElem?_append_left (by rw [mode_len]; exact h), ← List.getD_eq_getElem?_getD] at hin'
      have hne := mode_no44 (fileT (ts.getD i (0, 0, 0))) q h
      have := inSet_dup [44] ((modeTxt (fileT (ts.getD i (0, 0, 0)))).getD q 0)
      have hin2 : inSet (dup [44]) ((modeTxt (fileT (ts.getD i (0, 0, 0)))).getD q 0) = true := hin'
      rw [this, List.contains_iff_mem] at hin2
      simp at hin2
      exact hne (by simpa using hin2)
    · exact (Nat.le_antisymm (lin [_, _] (.v 0) (.v 1) (.s 1 (.a (.v 0) (.n 1)) (.n 11) (.s 1 (.n 11) (.a (.v 1) (.n 1)) .z)) rfl hq (subx _ _)) (lin [_, _] (.v 0) (.v 1) (.s 1 (.n 10) (.v 1) (.e 1 0 (.a (.v 0) (.n 1)) (.n 11) .z)) rfl h (Nat.sub_add_cancel (Nat.le_of_ble_eq_true rfl))))
  · rw [List.length_map] at hi
    rw [getD_map_trip fileT ts 0 hi]
    exact fit_signs (hw l hl) _
end Mine
end

-- the text P9
section
set_option maxRecDepth 100000
namespace Mine

theorem optIf_lt {b : Bool} {k n x : Nat} (hk : k < n) (h : optIf b k = some x) : x < n := by
  unfold optIf at h
  split at h
  · cases h; exact hk
  · cases h
set_option tactic.hygienic true in
theorem full_ok (a b c : Nat) : WOk (wishFull a b c) := by
  refine ⟨rfl, fun x h => ?_, fun x h => ?_, fun x h => ?_, fun x h => ?_, fun x h => ?_⟩
  · have h' : optIf (a / 128 % 2 == 0 && kindSigns.getD (a % 16) 0 != 63) (a % 16) = some x := h
    refine ⟨optIf_lt (Nat.mod_lt _ (by decide)) h', ?_⟩
    unfold optIf at h'
    split at h'
    · rename_i q
      cases h'
      simp only [Bool.and_eq_true, bne_iff_ne, ne_eq] at q
      exact q.2
    · cases h'
  · exact optIf_lt (Nat.mod_lt _ (by decide)) (show optIf _ _ = some x from h)
  · exact optIf_lt (Nat.mod_lt _ (by decide)) (show optIf _ _ = some x from h)
  · exact optIf_lt (Nat.mod_lt _ (by decide)) (show optIf _ _ = some x from h)
  · exact optIf_lt (Nat.mod_lt _ (by decide)) (show optIf _ _ = some x from h)
theorem seven_ok (a b c d : Nat) (hd : d < 8) : WOk ((wishFull a b c).take 4 ++ [some d]) := by
  have h := full_ok a b c
  exact ⟨rfl, h.k, h.a, h.o, h.g, fun x q => by
    have q' : some d = some x := q
    cases q'; exact hd⟩
theorem wishT_ok (t : Trip) : ∀ l, some l ∈ wishT t → WOk l := by
  intro l hl
  unfold wishT wishesOf at hl
  have hf := full_ok t.1 t.2.1 t.2.2
  split at hl
  · simp at hl; rw [hl]; exact hf
  · split at hl
    · simp at hl; rw [hl]; exact hf
    · split at hl
      · simp at hl
      · split at hl
        · simp at hl
        · split at hl
          · simp only [List.mem_singleton, Option.some.injEq] at hl
            rw [hl]; exact seven_ok _ _ _ _ (Nat.mod_lt _ (by decide))
          · simp at hl; rw [hl]; exact hf
theorem wishT_len (t : Trip) : (wishT t).length ≤ 2 := by
  unfold wishT wishesOf
  split; simp
  split; simp
  split; simp
  split; simp
  split <;> simp

theorem goodO {ws : List Wish} (hw : ∀ l, some l ∈ ws → WOk l) : ∀ it ∈ itemsO ws, goodB it = true := by
  intro it hit
  obtain ⟨w, h1, h2⟩ := List.mem_flatMap.mp hit
  cases w with
  | none => simp at h2; rw [h2]; exact goodL.2.2.1
  | some l =>
    have h := hw l h1
    have h2' : it ∈ itO l := h2
    unfold itO at h2'
    simp only [List.mem_cons, List.not_mem_nil, or_false] at h2'
    rcases h2' with rfl | rfl | rfl
    · exact good1 _ (mem_o16 fun x q => (h.k x q).1)
    · exact good2 _ (mem_o8 h.a) _ (mem_o8 h.o)
    · exact good3 _ (mem_o8 h.g) _ (mem_o8 h.t)
theorem goodSg {a f : Option Nat} (ha : ∀ x, a = some x → x < 8) (hf : ∀ x, f = some x → x < 8) {tr : Nat × List Nat} (htr : tr ∈ trs) : goodB (sgI a f tr) = true := goodS a (mem_o8 ha) f (mem_o8 hf) tr htr
theorem goodFg {f : Option Nat} (hf : ∀ x, f = some x → x < 8) : goodB (figA f) = true ∧ goodB (figB f) = true := by
  cases f with
  | none => exact ⟨goodL.2.1, goodL.2.1⟩
  | some x =>
    have h := goodF x (hf x rfl)
    rw [figIts_eq] at h
    exact ⟨h _ (by simp), h _ (by simp)⟩
theorem goodSi {ws : List Wish} (hw : ∀ l, some l ∈ ws → WOk l) : ∀ it ∈ itemsS ws, goodB it = true := by
  intro it hit
  obtain ⟨w, h1, h2⟩ := List.mem_flatMap.mp hit
  cases w with
  | none => simp at h2; rw [h2]; exact goodL.2.2.1
  | some l =>
    have h := hw l h1
    have h2' : it ∈ itS l := h2
    rw [itS_eq] at h2'
    simp only [List.mem_cons, List.not_mem_nil, or_false] at h2'
    rcases h2' with rfl | rfl | rfl | rfl | rfl | rfl | rfl | rfl | rfl | rfl | rfl
    · cases hq : l.getD 0 none with
      | none => exact goodL.2.1
      | some x => exact (goodK x (h.k x hq).1 (h.k x hq).2).1
    · exact (goodFg h.o).1
    · exact (goodFg h.o).2
    · exact goodSg h.a h.o (by decide)
    · exact (goodFg h.g).1
    · exact (goodFg h.g).2
    · exact goodSg h.a h.g (by decide)
    · exact (goodFg h.t).1
    · exact (goodFg h.t).2
    · exact goodSg h.a h.t (by decide)
    · exact goodL.1
theorem good_ok {it : Item} (h : goodB it = true) : it.ok := by
  unfold goodB at h
  simp only [Bool.and_eq_true] at h
  exact okIt_of h.1
theorem good_part {it : Item} (h : goodB it = true) {t : List Nat} (ht : it.part = some t) : (rangesOf t).isSome = true ∧ t.length ≤ 1000 ∧ (rset t).length ≤ 1000 := by
  unfold goodB partOkB at h
  rw [ht] at h
  simp only [Bool.and_eq_true, decide_eq_true_eq] at h
  exact ⟨h.2.1.1, h.2.1.2, h.2.2⟩
theorem good_len {it : Item} (h : goodB it = true) : it.text.length ≤ 502 := by
  have hok := good_ok h
  cases it with
  | star => simp [Item.text]
  | any => simp [Item.text]
  | lit c => simp [Item.text]
  | brk st out =>
    have := (show BrkOk st out from hok).len
    simp [Item.text]; omega
theorem text_len : ∀ (items : List Item), (∀ it ∈ items, goodB it = true) → (textOf items).length ≤ 502 * items.length
  | [], _ => by simp [textOf]
  | it :: r, h => by
    have h1 := good_len (h it List.mem_cons_self)
    have h2 := text_len r fun it hit => h it (List.mem_cons_of_mem _ hit)
    have e : (textOf (it :: r)).length = it.text.length + (textOf r).length := by
      show (List.flatMap _ _).length = _
      rw [List.flatMap_cons, List.length_append]; rfl
    rw [e, List.length_cons]; exact (lin [_, _, _] (.a (.v 0) (.v 1)) (.m 502 (.a (.v 2) (.n 1))) (.s 1 (.v 0) (.n 502) (.s 1 (.v 1) (.m 502 (.v 2)) .z)) rfl h1 h2)
theorem flat_le {α β : Type} (f : α → List β) (n : Nat) : ∀ (l : List α), (∀ a ∈ l, (f a).length ≤ n) → (l.flatMap f).length ≤ n * l.length
  | [], _ => by simp
  | a :: r, h => by
    have h1 := h a List.mem_cons_self
    have h2 := flat_le f n r fun x hx => h x (List.mem_cons_of_mem _ hx)
    rw [List.flatMap_cons, List.length_append, List.length_cons, Nat.mul_succ]; exact (lin [_, _, _, _] (.a (.v 0) (.v 1)) (.a (.v 2) (.v 3)) (.s 1 (.v 0) (.v 3) (.s 1 (.v 1) (.v 2) .z)) rfl h1 h2)
theorem itemsO_len (ws : List Wish) : (itemsO ws).length ≤ 11 * ws.length := flat_le _ 11 ws fun w _ => by
  cases w with
  | none => simp
  | some l => simp [itO]
theorem itemsS_len (ws : List Wish) : (itemsS ws).length ≤ 11 * ws.length := flat_le _ 11 ws fun w _ => by
  cases w with
  | none => simp
  | some l => show (itS l).length ≤ 11; rw [itS_len]; exact Nat.le_refl _
theorem parts_mem (items : List Item) (t : List Nat) (h : some t ∈ partsOf items) : ∃ it ∈ items, it.part = some t := by
  have aux : ∀ (items : List Item) (acc : List (Option (List Nat))), some t ∈ items.foldl (fun acc it => pushPart acc it.part) acc → some t ∈ acc ∨ ∃ it ∈ items, it.part = some t := by
    intro items
    induction items with
    | nil => intro acc h; exact .inl h
    | cons it r ih =>
      intro acc h
      rcases ih _ h with h | ⟨x, h1, h2⟩
      · have h : some t ∈ pushPart acc it.part := h
        cases hq : it.part with
        | none =>
          rw [hq] at h
          have h' : some t ∈ (if acc.getLast? == some none then acc else acc ++ [none]) := h
          split at h'
          · exact .inl h'
          · rcases List.mem_append.mp h' with h'' | h''
            · exact .inl h''
            · simp at h''
        | some l =>
          rw [hq] at h
          rcases List.mem_append.mp (show some t ∈ acc ++ [some l] from h) with h'' | h''
          · exact .inl h''
          · simp at h''; exact .inr ⟨it, List.mem_cons_self, by rw [hq, h'']⟩
      · exact .inr ⟨x, List.mem_cons_of_mem _ h1, h2⟩
  rcases aux items [] h with h | h
  · cases h
  · exact h
theorem splitP_facts : ∀ pt : Pt, (splitP pt).length ≤ pt.length + 1 ∧ ∀ g ∈ splitP pt, g.length ≤ pt.length ∧ ∀ s ∈ g, some s ∈ pt
  | [] => ⟨by simp [splitP], fun g hg => by simp [splitP] at hg; subst hg; simp⟩
  | none :: r => by
    obtain ⟨h1, h2⟩ := splitP_facts r
    refine ⟨by show ([] :: splitP r).length ≤ _; simp; omega, fun g hg => ?_⟩
    rcases List.mem_cons.mp (show g ∈ [] :: splitP r from hg) with rfl | hg
    · simp
    · obtain ⟨a, b⟩ := h2 g hg
      exact ⟨by simp; exact (lin [_, _] (.v 0) (.a (.v 1) (.n 1)) (.s 1 (.v 0) (.v 1) .z) rfl a), fun s hs => List.mem_cons_of_mem _ (b s hs)⟩
  | some x :: r => by
    obtain ⟨h1, h2⟩ := splitP_facts r
    cases hq : splitP r with
    | nil => exact absurd hq (splitP_ne r)
    | cons h t =>
      have e : splitP (some x :: r) = (x :: h) :: t := by
        show (match splitP r with | [] => [[x]] | h :: t => (x :: h) :: t) = _
        rw [hq]
      rw [hq] at h1 h2
      rw [e]
      refine ⟨by simp at h1 ⊢; exact (lin [_, _] (.v 0) (.a (.v 1) (.n 1)) (.s 1 (.v 0) (.v 1) .z) rfl h1), fun g hg => ?_⟩
      rcases List.mem_cons.mp hg with rfl | hg
      · obtain ⟨a, b⟩ := h2 h List.mem_cons_self
        refine ⟨by simp; omega, fun s hs => ?_⟩
        rcases List.mem_cons.mp hs with rfl | hs
        · exact List.mem_cons_self
        · exact List.mem_cons_of_mem _ (b s hs)
      · obtain ⟨a, b⟩ := h2 g (List.mem_cons_of_mem _ hg)
        exact ⟨by simp; exact (lin [_, _] (.v 0) (.a (.v 1) (.n 1)) (.s 1 (.v 0) (.v 1) .z) rfl a), fun s hs => List.mem_cons_of_mem _ (b s hs)⟩
theorem ps_ok {items : List Item} (hg : ∀ it ∈ items, goodB it = true) (hl : items.length ≤ 900) : PsOk (piecesOf (partsOf items)) := by
  rw [pieces_split]
  obtain ⟨h1, h2⟩ := splitP_facts (ptOf (partsOf items))
  have hp := partsOf_len items
  have hpl : (ptOf (partsOf items)).length = (partsOf items).length := List.length_map ..
  refine ⟨by exact (lin [_, _, _, _] (.v 0) (.n 1000) (.s 1 (.v 1) (.n 900) (.s 1 (.v 0) (.a (.v 2) (.n 1)) (.s 1 (.v 3) (.v 1) (.e 1 0 (.v 2) (.v 3) .z)))) rfl hl h1 hp hpl), ?_, fun s hs => by have := (h2 s hs).1; exact (lin [_, _, _, _] (.v 0) (.n 1000) (.s 1 (.v 1) (.n 900) (.s 1 (.v 2) (.v 1) (.e 1 0 (.v 3) (.v 2) (.s 1 (.v 0) (.v 3) .z)))) rfl hl hp hpl this), fun s hs x hx => ?_⟩
  · rcases Nat.eq_zero_or_pos (splitP (ptOf (partsOf items))).length with q | q
    · exact absurd (List.length_eq_zero_iff.mp q) (splitP_ne _)
    · exact q
  · have hm := (h2 s hs).2 x hx
    obtain ⟨o, ho, e⟩ := List.mem_map.mp hm
    cases o with
    | none => cases e
    | some t =>
      have e' : rset t = x := by injection e
      obtain ⟨it, h3, h4⟩ := parts_mem items t ho
      rw [← e']
      exact (good_part (hg it h3) h4).2.2
theorem parts_ok {items : List Item} (hg : ∀ it ∈ items, goodB it = true) : ∀ t, some t ∈ partsOf items → (rangesOf t).isSome = true ∧ t.length ≤ 1000 := fun t ht => by
  obtain ⟨it, h3, h4⟩ := parts_mem items t ht
  have := good_part (hg it h3) h4
  exact ⟨this.1, this.2.1⟩

/-! the numbers -/
noncomputable def flatT (ts : List Trip) : List Nat := ts.flatMap fun t => [t.1, t.2.1, t.2.2]
theorem trips_of : ∀ (m : Nat) (l : List Nat), l.length = 3 * m → ∃ ts : List Trip, ts.length = m ∧ l = flatT ts
  | 0, l, h => ⟨[], rfl, by
    have e : l = [] := List.length_eq_zero_iff.mp (by omega)
    rw [e]; rfl⟩
  | m + 1, l, h => by
    match l, h with
    | a :: b :: c :: r, h =>
      obtain ⟨ts, h1, h2⟩ := trips_of m r (by simp at h; exact (Nat.le_antisymm (lin [_, _] (.v 0) (.m 3 (.v 1)) (.e 1 0 (.a (.a (.a (.v 0) (.n 1)) (.n 1)) (.n 1)) (.m 3 (.a (.v 1) (.n 1))) .z) rfl h) (lin [_, _] (.m 3 (.v 0)) (.v 1) (.e 0 1 (.a (.a (.a (.v 1) (.n 1)) (.n 1)) (.n 1)) (.m 3 (.a (.v 0) (.n 1))) .z) rfl h)))
      exact ⟨(a, b, c) :: ts, by simp [h1], by rw [h2]; rfl⟩
    | [], h => simp at h
    | [a], h => simp at h; omega
    | [a, b], h => simp at h; lia
noncomputable def numsOf (z : List Int) : List Nat := (z.take 6).map (fun x => ((x * 1265).fmod 2048).toNat) ++ ([136, 47, 37] : List Nat).drop ((z.take 6).length % 3)
theorem numsOf_trips (z : List Int) : ∃ ts : List Trip, ts.length ≤ 3 ∧ numsOf z = flatT ts := by
  have hl : (z.take 6).length ≤ 6 := by simp; exact (lin [_] (.v 0) (.n 6) (.s 1 (.v 0) (.n 6) .z) rfl (Nat.min_le_left _ _))
  have hlen : (numsOf z).length = (z.take 6).length + (3 - (z.take 6).length % 3) := by
    unfold numsOf
    rw [List.length_append, List.length_map, List.length_drop]; rfl
  generalize (z.take 6).length = k at hl hlen
  obtain ⟨ts, h1, h2⟩ := trips_of (k / 3 + 1) (numsOf z) (by exact (Nat.le_antisymm (lin [_, _, _, _, _] (.v 0) (.m 3 (.a (.v 1) (.n 1))) (.e 1 0 (.v 0) (.a (.v 2) (.v 3)) (.e 0 1 (.a (.m 3 (.v 1)) (.v 4)) (.v 2) (.e 1 0 (.a (.v 3) (.v 4)) (.n 3) .z))) rfl hlen (Nat.div_add_mod _ _) (Nat.sub_add_cancel (lin [_] (.v 0) (.n 3) (.s 1 (.a (.v 0) (.n 1)) (.n 3) .z) rfl (Nat.mod_lt _ (Nat.succ_pos 2))))) (lin [_, _, _, _, _] (.m 3 (.a (.v 0) (.n 1))) (.v 1) (.e 0 1 (.v 1) (.a (.v 2) (.v 3)) (.s 1 (.n 3) (.a (.v 3) (.v 4)) (.e 1 0 (.a (.m 3 (.v 0)) (.v 4)) (.v 2) .z))) rfl hlen (subx _ _) (Nat.div_add_mod _ _))))
  exact ⟨ts, by lia, h2⟩
end Mine
end

-- the text N15
section
open PySem PySem.Calls PySem.W PyProof.Rows
set_option maxRecDepth 100000
namespace Mine
section
variable {prog : Program} {w : World}

noncomputable def octsT (ts : List Trip) : List Nat := ts.flatMap octT
noncomputable def wsT (ts : List Trip) : List Wish := ts.flatMap wishT
noncomputable def lwS (ts : List Trip) (i : Nat) : State := ⟨[("numbers", .d (.list (nz (flatT ts)))), ("octets", .mu 0), ("wishes", .mu 1)], [.list ((nz (octsT (ts.take i))).map V.d), .list (((wsT (ts.take i)).map wishV).map V.d)]⟩
noncomputable def lwF (ts : List Trip) : State := ⟨[("octets", .d (.list (nz (octsT ts)))), ("wishes", .d (.list ((wsT ts).map wishV)))], [.dead, .dead]⟩
theorem slice_trip (ts : List Trip) (i : Nat) (t : Trip) (h : ts[i]? = some t) : ((flatT ts).take (3 * i + 3)).drop (3 * i) = [t.1, t.2.1, t.2.2] := by
  induction ts generalizing i with
  | nil => cases h
  | cons a r ih =>
    have e : flatT (a :: r) = a.1 :: a.2.1 :: a.2.2 :: flatT r := rfl
    rw [e]
    cases i with
    | zero => simp at h; subst h; rfl
    | succ i =>
      have := ih i (by simpa using h)
      rw [show 3 * (i + 1) + 3 = 3 * i + 3 + 1 + 1 + 1 by exact (lid [_] (.a (.m 3 (.a (.v 0) (.n 1))) (.n 3)) (.a (.a (.a (.a (.m 3 (.v 0)) (.n 3)) (.n 1)) (.n 1)) (.n 1)) rfl), show 3 * (i + 1) = 3 * i + 1 + 1 + 1 by exact (lid [_] (.m 3 (.a (.v 0) (.n 1))) (.a (.a (.a (.m 3 (.v 0)) (.n 1)) (.n 1)) (.n 1)) rfl)]
      simpa using this
theorem flatT_len (ts : List Trip) : (flatT ts).length = 3 * ts.length := by
  induction ts with
  | nil => rfl
  | cons a r ih =>
    show (a.1 :: a.2.1 :: a.2.2 :: flatT r).length = _
    simp [ih]; exact (lid [_] (.a (.a (.a (.m 3 (.v 0)) (.n 1)) (.n 1)) (.n 1)) (.m 3 (.a (.v 0) (.n 1))) rfl)
theorem flatT_get (ts : List Trip) (i : Nat) (t : Trip) (h : ts[i]? = some t) : (flatT ts)[3 * i]? = some t.1 ∧ (flatT ts)[3 * i + 1]? = some t.2.1 ∧ (flatT ts)[3 * i + 2]? = some t.2.2 := by
  have hs := slice_trip ts i t h
  have hi : i < ts.length := (List.getElem?_eq_some_iff.mp h).1
  have g : ∀ q, q < 3 → (flatT ts)[3 * i + q]? = [t.1, t.2.1, t.2.2][q]? := fun q hq => by
    rw [← hs, List.getElem?_drop, List.getElem?_take_of_lt (by exact (lin [_, _] (.a (.a (.m 3 (.v 0)) (.v 1)) (.n 1)) (.a (.m 3 (.v 0)) (.n 3)) (.s 1 (.a (.v 1) (.n 1)) (.n 3) .z) rfl hq))]
  exact ⟨g 0 (by decide), g 1 (by decide), g 2 (by decide)⟩
theorem octsT_len (ts : List Trip) : (octsT ts).length = 3 * ts.length := by
  induction ts with
  | nil => rfl
  | cons a r ih =>
    show (octT a ++ octsT r).length = _
    rw [List.length_append, ih]
    show 3 + _ = 3 * (r.length + 1); exact (lid [_] (.a (.n 3) (.m 3 (.v 0))) (.m 3 (.a (.v 0) (.n 1))) rfl)
theorem octsT_get (ts : List Trip) (i : Nat) (t : Trip) (h : ts[i]? = some t) : (octsT ts).getD (3 * i) 0 = 64 + t.1 % 64 + 128 * (t.1 / 64 % 2) ∧ (octsT ts).getD (3 * i + 1) 0 = 64 + t.2.1 % 64 + 128 * (t.2.1 / 64 % 2) ∧ (octsT ts).getD (3 * i + 2) 0 = t.2.2 % 64 + 128 * (t.2.2 / 64 % 2) := by
  have hi : i < ts.length := (List.getElem?_eq_some_iff.mp h).1
  have key : ∀ q, q < 3 → (octsT ts).getD (3 * i + q) 0 = (octT t).getD q 0 := fun q hq => by
    have := flat_get (L := 3) (ts.map octT) (fun b hb => by obtain ⟨x, _, rfl⟩ := List.mem_map.mp hb; rfl) i q (by simpa using hi) hq
    unfold octsT
    rw [List.flatMap_def, this]
    congr 1
    rw [List.getD_eq_getElem?_getD, List.getElem?_map, h]; rfl
  exact ⟨key 0 (by decide), key 1 (by decide), key 2 (by decide)⟩
theorem rangeSize_three (m : Nat) : Builtin.Range.rangeSize 0 ((3 * m : Nat) : Int) 3 = (m : Nat) := by
  rw [PyProof.Rows.rangeSize_pos (by decide) (by simp +arith)]
  lia
theorem fits_long {i : Int} (h1 : 0 ≤ i) (h2 : i < 1000000) : Builtin.Range.rangeFitsLong i = true := by
  unfold Builtin.Range.rangeFitsLong
  rw [decide_eq_true (show -(2 ^ 63) ≤ i by lia), decide_eq_true (show i < 2 ^ 63 by lia)]
  rfl
theorem small_three {m : Nat} (h : m < 100000) : Builtin.Range.small 0 ((3 * m : Nat) : Int) 3 = true := by
  unfold Builtin.Range.small
  rw [rangeSize_three, fits_long (i := 0) (by decide) (by decide), fits_long (i := ((3 * m : Nat) : Int)) (by simp +arith) (by lia), fits_long (i := 3) (by decide) (by decide), fits_long (i := ((m : Nat) : Int)) (by simp) (by lia), if_pos (show (3 : Int) > 0 by decide), fits_long (i := ((3 * m : Nat) : Int) + (3 - 1)) (by simp +arith) (by lia)]
  rw [Bool.or_true]; rfl
theorem rngItems_three (m : Nat) : rngItems 0 3 m = (List.range m).map fun i => dz (3 * i) := by
  unfold rngItems
  refine List.map_congr_left fun i hi => ?_
  show D.int _ = D.int _
  congr 1; simp +arith

noncomputable def octW (w : Wish) : List Nat := match w with | none => [42] | some l => textOf (itO l)
noncomputable def sgnW (w : Wish) : List Nat := match w with | none => [42] | some l => textOf (itS l)
theorem text_octW (ws : List Wish) : textOf (itemsO ws) = joinL [] (ws.map octW) := by
  rw [joinL_nil]
  unfold textOf itemsO
  rw [List.flatMap_assoc, List.flatMap_def]
  congr 1
  refine List.map_congr_left fun w _ => ?_
  cases w <;> rfl
theorem text_sgnW (ws : List Wish) : textOf (itemsS ws) = joinL [] (ws.map sgnW) := by
  rw [joinL_nil]
  unfold textOf itemsS
  rw [List.flatMap_assoc, List.flatMap_def]
  congr 1
  refine List.map_congr_left fun w _ => ?_
  cases w <;> rfl
theorem octsT_drop : ∀ (ts : List Trip) (j : Nat), (octsT ts).drop (3 * j) = (ts.drop j).flatMap octT
  | ts, 0 => by simp [octsT]
  | [], j + 1 => by simp [octsT]
  | a :: r, j + 1 => by
    have e : octsT (a :: r) = octT a ++ octsT r := rfl
    rw [e, show 3 * (j + 1) = (octT a).length + 3 * j by show _ = 3 + _; exact (lid [_] (.m 3 (.a (.v 0) (.n 1))) (.a (.n 3) (.m 3 (.v 0))) rfl), List.drop_append]
    rw [List.drop_eq_nil_of_le (by exact (lin [_, _] (.v 0) (.a (.v 0) (.m 3 (.v 1))) .z rfl)), List.nil_append, List.drop_succ_cons, ← octsT_drop r j]
    congr 1; exact (Nat.le_antisymm (lin [_, _, _] (.v 0) (.m 3 (.v 1)) (.e 1 0 (.a (.v 0) (.v 2)) (.a (.v 2) (.m 3 (.v 1))) .z) rfl (Nat.sub_add_cancel (lin [_, _] (.v 0) (.a (.v 0) (.m 3 (.v 1))) .z rfl))) (lin [_, _, _] (.m 3 (.v 0)) (.v 1) (.s 1 (.a (.v 2) (.m 3 (.v 0))) (.a (.v 1) (.v 2)) .z) rfl (subx _ _)))
theorem sz64 (x y : Nat) : (64 + x % 64 + 128 * y) / 64 = 1 + 2 * y := by
  rw [show 64 + x % 64 + 128 * y = x % 64 + 64 * (1 + 2 * y) by rw [Nat.mul_add, ← Nat.mul_assoc, Nat.add_comm 64, Nat.add_assoc], Nat.add_mul_div_left _ _ (by decide), Nat.div_eq_of_lt (Nat.mod_lt x (by decide)), Nat.zero_add]
theorem sy64 (x y : Nat) : (x % 64 + 128 * y) / 64 = 2 * y := by
  rw [show x % 64 + 128 * y = x % 64 + 64 * (2 * y) by rw [← Nat.mul_assoc], Nat.add_mul_div_left _ _ (by decide), Nat.div_eq_of_lt (Nat.mod_lt x (by decide)), Nat.zero_add]
theorem hi1 (x y : Nat) : (64 + x % 64 + 128 * y) / 64 % 2 = 1 := by rw [sz64, Nat.add_mul_mod_self_left]
theorem hi0 (x y : Nat) : (x % 64 + 128 * y) / 64 % 2 = 0 := by rw [sy64, Nat.mul_mod_right]
theorem lo1 (x y : Nat) : (64 + x % 64 + 128 * y) % 64 = x % 64 := by
  rw [show 64 + x % 64 + 128 * y = x % 64 + 64 * (1 + 2 * y) by rw [Nat.mul_add, ← Nat.mul_assoc, Nat.add_comm 64, Nat.add_assoc], Nat.add_mul_mod_self_left, Nat.mod_mod]
theorem lo0 (x y : Nat) : (x % 64 + 128 * y) % 64 = x % 64 := by
  rw [show x % 64 + 128 * y = x % 64 + 64 * (2 * y) by rw [← Nat.mul_assoc], Nat.add_mul_mod_self_left, Nat.mod_mod]
theorem olt1 (x y : Nat) : 64 + x % 64 + 128 * (y % 2) < 1114112 := lin [x % 64, y % 2] (.a (.a (.a (.n 64) (.v 0)) (.m 128 (.v 1))) (.n 1)) (.n 1114112) (.s 1 (.a (.v 0) (.n 1)) (.n 64) (.s 128 (.a (.v 1) (.n 1)) (.n 2) .z)) rfl (Nat.mod_lt x (Nat.succ_pos 63)) (Nat.mod_lt y (Nat.succ_pos 1))
theorem olt0 (x y : Nat) : x % 64 + 128 * (y % 2) < 1114112 := Nat.lt_of_le_of_lt (Nat.add_le_add_right (Nat.le_add_left _ 64) _) (olt1 x y)
theorem octT_lt (ts : List Trip) (x : Nat) (h : x ∈ ts.flatMap octT) : x < 1114112 := by
  obtain ⟨t, _, h⟩ := List.mem_flatMap.mp h
  unfold octT at h
  simp only [List.mem_cons, List.not_mem_nil, or_false] at h
  rcases h with h | h | h
  · rw [h]; exact olt1 _ _
  · rw [h]; exact olt1 _ _
  · rw [h]; exact olt0 _ _
theorem sum_ones (l : List Nat) (h : l.length ≤ 1000) : ((l.map fun x => [x]).map (·.length)).sum + (l.map fun x => [x]).length ≤ 1048576 := by
  have e : ∀ l : List Nat, ((l.map fun x => [x]).map (·.length)).sum = l.length := fun l => by
    induction l with
    | nil => rfl
    | cons a l ih => simp only [List.map_cons, List.sum_cons, ih, List.length_cons, List.length_nil]; exact (lid [_] (.a (.a (.n 0) (.n 1)) (.v 0)) (.a (.v 0) (.n 1)) rfl)
  rw [e, List.length_map]; exact (lin [_] (.a (.v 0) (.v 0)) (.n 1048576) (.s 2 (.v 0) (.n 1000) .z) rfl h)
set_option maxHeartbeats 16000000 in
theorem spec_law (z : List Int) (hz : z.length ≤ 63) : Spec prog w (KK w) 4 191 [.list (z.map D.int)] (.bool true) := by
  obtain ⟨ts, htl, hnums⟩ := numsOf_trips z
  refine spec_intro (names := ["script"]) (by rfl) (by kernel_rfl) (by rfl) ?_ (by decide) (by rfl) (by decide +kernel) (by rfl) (by rfl) (by rfl) (by rfl) (by rfl) (by decide +kernel) ?_
  · exact vs1 fun a => rfl
  · have hzl : (z.map D.int).length ≤ 63 := by simpa using hz
    refine runs_cons (run_assign (v := .d (.list (nz (flatT ts)))) ?_ (by rfl) ?_)
    · rw [← hnums]
      have hzt : ((z.take 6).map D.int).length ≤ 6 := by simp; exact (lin [_] (.v 0) (.n 6) (.s 1 (.v 0) (.n 6) .z) rfl (Nat.min_le_left _ _))
      have hslc : slc (z.map D.int) none (some ((6 : Nat) : Int)) = (z.take 6).map D.int := by rw [slc_to, List.map_take]
      have e : nz (numsOf z) = (z.take 6).map (fun x => dz (((x * 1265).fmod 2048).toNat)) ++ slc (nz [136, 47, 37]) (some (((z.take 6).length % 3 : Nat) : Int)) none := by
        rw [slc_map, slc_from]
        unfold numsOf nz
        rw [List.map_append, List.map_map]; rfl
      rw [e]
      have hsl6 : ∀ {S : State} {sx : Sx} {e : Expr} {k : Nat} {p p2 p3 : Pos}, Evals prog w (KK w) 3 sx S e (.d (.list (z.map D.int))) → Evals prog w (KK w) 3 sx S (.Subscript e (.Slice none (some (.Constant (.int 6) k p)) none p2) p3) (.d (.list ((z.take 6).map D.int))) := fun {S sx e k p p2 p3} he => by
        rw [← hslc]; exact ev_slice_list he .none (.some (nt 6)) (seg_len (by omega))
      refine ev_binop (ev_comp1 [] (z.take 6) D.int (fun x => dz (((x * 1265).fmod 2048).toNat)) (src_of (hsl6 lv) (iters_list (seg_len (by omega)))) (scopeOk [] .nil) (fun x _ => ?_) (seg_len (by simp; exact (lin [_] (.v 0) (.n 100000) (.s 1 (.v 0) (.n 6) .z) rfl (Nat.min_le_left _ _))))) (ev_slice_list (ev_list (ds := nz [136, 47, 37]) (evl_cons (nt 136) (evl_cons (nt 47) (evl_cons (nt 37) evl_nil))) (seg_len (by decide))) (.some ?_) .none (seg_len (by decide))) (op_add_list (by rw [sizeLine_eq, slc_map, slc_from, List.length_map, List.length_map, List.length_drop]; show _ + (3 - _ % 3) ≤ _; simp; exact (lin [_, _] (.a (.v 0) (.v 1)) (.n 16777216) (.s 1 (.v 0) (.n 6) (.s 1 (.v 1) (.n 3) .z)) rfl (Nat.min_le_left _ _) (Nat.sub_le _ _))))
      · have hx : dz (((x * 1265).fmod 2048).toNat) = .int ((x * 1265).fmod 2048) := by
          show D.int _ = D.int _
          congr 1
          have := Int.fmod_nonneg_of_pos (x * 1265) (show (0 : Int) < 2048 by decide)
          omega
        rw [hx]
        exact ev_binop (ev_binop lv ev_int (op_mul_int (IntMulOk.of_right (by decide)))) ev_int (op_mod_int (by decide))
      · have el : (z.take 6).length = ((z.take 6).map D.int).length := by simp
        rw [el]
        exact nmod (llen bv (hsl6 lv) (by omega)) (nt 3)
    refine runs_cons (run_assignM (evM_list (vs := []) evl_nil (by simp)) (by rfl) ?_)
    refine runs_cons (run_assignM (evM_list (vs := []) evl_nil (by simp)) (by rfl) ?_)
    refine runs_join (lwS ts ts.length) (run_forH (List.range ts.length) (fun i => dz (3 * i)) (fun d => [("place", d)]) (lwS ts) (fun _ => True) ?_ (fun i _ => binds_name (by rfl)) (has rfl ⟨rfl, rfl, rfl, trivial⟩) trivial (fun i j hi _ => ?_) fun _ => runs_nil (by show Has (lwS ts (List.range ts.length).length) (lwS ts ts.length); rw [List.length_range]; exact .refl _)) ?_
    · rw [← rngItems_three]
      refine src_of (di := .rng 0 ((3 * ts.length : Nat) : Int) 3) (ev_tcall (ds := [dz 0, dz (3 * ts.length), dz 3]) bv (evl_cons (nt 0) (evl_cons ?_ (evl_cons (nt 3) evl_nil))) (bc_range3 (by decide) (by decide))) (iters_range (rangeSize_three _) (small_three (by omega)))
      have e : 3 * ts.length = (nz (flatT ts)).length := by rw [List.length_map, flatT_len]
      rw [e]
      exact llen bv lv (by rw [List.length_map, flatT_len]; exact (lin [_] (.m 3 (.v 0)) (.n 100000) (.s 3 (.v 0) (.n 3) .z) rfl htl))
    · have hil : i < ts.length := by
        have := (List.getElem?_eq_some_iff.mp hi).1
        simpa using this
      have hj : j = i := by rw [List.getElem?_range hil] at hi; cases hi; rfl
      subst hj
      obtain ⟨t, ht⟩ : ∃ t, ts[j]? = some t := ⟨ts[j], List.getElem?_eq_getElem hil⟩
      have htake : ts.take (j + 1) = ts.take j ++ [t] := by rw [List.take_add_one, ht]; rfl
      have hnl : (nz (flatT ts)).length ≤ 100 := by rw [List.length_map, flatT_len]; exact (lin [_] (.m 3 (.v 0)) (.n 100) (.s 3 (.v 0) (.n 3) .z) rfl htl)
      have hslc : slc (nz (flatT ts)) (some ((3 * j : Nat) : Int)) (some ((3 * j + 3 : Nat) : Int)) = nz [t.1, t.2.1, t.2.2] := by
        rw [slc_map, slc_mid, slice_trip ts j t ht]
      obtain ⟨g0, g1, g2⟩ := flatT_get ts j t ht
      have hol : (octsT (ts.take j)).length ≤ 9 := by
        have := flat_le octT 3 (ts.take j) (fun a _ => Nat.le_refl _)
        have h2 : (ts.take j).length ≤ 3 := by simp; exact (lin [_, _] (.v 0) (.n 3) (.s 1 (.v 1) (.n 3) (.s 1 (.v 0) (.v 1) .z)) rfl htl (Nat.min_le_right _ _))
        unfold octsT; exact (lin [_, _] (.v 0) (.n 9) (.s 1 (.v 0) (.m 3 (.v 1)) (.s 3 (.v 1) (.n 3) .z)) rfl this h2)
      have hwl : (wsT (ts.take j)).length ≤ 6 := by
        have := flat_le wishT 2 (ts.take j) (fun a _ => wishT_len a)
        have h2 : (ts.take j).length ≤ 3 := by simp; exact (lin [_, _] (.v 0) (.n 3) (.s 1 (.v 1) (.n 3) (.s 1 (.v 0) (.v 1) .z)) rfl htl (Nat.min_le_right _ _))
        unfold wsT; exact (lin [_, _] (.v 0) (.n 6) (.s 1 (.v 0) (.m 2 (.v 1)) (.s 2 (.v 1) (.n 3) .z)) rfl this h2)
      have idx : ∀ {q : Nat} {x : Nat}, (flatT ts)[q]? = some x → (nz (flatT ts))[q]? = some (dz x) ∧ q < (nz (flatT ts)).length := fun {q x} h => by
        rw [List.getElem?_map, h]
        exact ⟨rfl, by rw [List.length_map]; exact (List.getElem?_eq_some_iff.mp h).1⟩
      refine runs_cons (run_extend (l := (nz (octsT (ts.take j))).map V.d) (es := nz (octT t)) lv (ev_call (ds := [.list (nz [t.1, t.2.1, t.2.2])]) (d := .list (nz (packed [t.1, t.2.1, t.2.2]))) gv (evl_cons ?_ evl_nil) (by rfl) (spec_packed (by simp)) (by exact (Nat.le_of_ble_eq_true rfl)) (KKtab w) ⟨_, _, rfl, by intro _; rfl⟩) (by rfl) (by simp; omega) (by simp [octT]) ?_)
      · rw [← hslc]
        exact ev_slice_list lv (.some lv) (.some (nadd lv (nt 3))) (seg_len (by omega))
      refine runs_cons (run_extend (l := ((wsT (ts.take j)).map wishV).map V.d) (es := (wishT t).map wishV) lv (ev_call (ds := [dz t.1, dz t.2.1, dz t.2.2]) (d := .list ((wishesOf t.1 t.2.1 t.2.2).map wishV)) gv (evl_cons (lidx lv lv (idx g0).2 (idx g0).1 (by omega)) (evl_cons (lidx lv (nadd lv (nt 1)) (idx g1).2 (idx g1).1 (by omega)) (evl_cons (lidx lv (nadd lv (nt 2)) (idx g2).2 (idx g2).1 (by omega)) evl_nil))) (by rfl) spec_wishes (by exact (Nat.le_of_ble_eq_true rfl)) (KKtab w) ⟨_, _, rfl, by intro _; rfl⟩) (by rfl) (by simp; omega) (by have := wishT_len t; simp; omega) (runs_nil ?_))
      refine ⟨trivial, has ?_ ⟨rfl, rfl, rfl, trivial⟩⟩
      show [Mut.list ((nz (octsT (ts.take j))).map V.d ++ (nz (octT t)).map V.d), Mut.list (((wsT (ts.take j)).map wishV).map V.d ++ ((wishT t).map wishV).map V.d)] = [.list ((nz (octsT (ts.take (j + 1)))).map V.d), .list (((wsT (ts.take (j + 1))).map wishV).map V.d)]
      rw [htake]
      unfold octsT wsT
      simp [List.flatMap_append]
    refine runs_freeze (k := 0) (ds := nz (octsT ts)) (by show some (Mut.list ((nz (octsT (ts.take ts.length))).map V.d)) = _; rw [List.take_length]) ?_
    refine runs_freeze (k := 1) (ds := (wsT ts).map wishV) (by
      show some (Mut.fz 0 (nz (octsT ts)) (.list (((wsT (ts.take ts.length)).map wishV).map V.d))) = _
      rw [List.take_length]
      show some (Mut.list ((((wsT ts).map wishV).map V.d).map (V.fz 0 (nz (octsT ts))))) = _
      rw [fz_d]) ?_
    have hF : Has (((lwS ts ts.length).freeze 0 (nz (octsT ts))).freeze 1 ((wsT ts).map wishV)) (lwF ts) := has rfl ⟨rfl, rfl, trivial⟩
    refine hF.runs ?_
    refine runs_iterE bv lv (by rfl) (by rfl) fun it a => ?_
    have hwl : (wsT ts).length ≤ 6 := by
      have := flat_le wishT 2 ts (fun a _ => wishT_len a)
      unfold wsT; exact (lin [_, _] (.v 0) (.n 6) (.s 2 (.v 1) (.n 3) (.s 1 (.v 0) (.m 2 (.v 1)) .z)) rfl htl this)
    have hol : (octsT ts).length = 3 * ts.length := octsT_len ts
    have hwok : ∀ l, some l ∈ wsT ts → WOk l := fun l hl => by
      obtain ⟨t, _, h2⟩ := List.mem_flatMap.mp hl
      exact wishT_ok t l h2
    have hok1 : (nz (octsT ts)).length ≤ 9 := by rw [List.length_map, hol]; exact (lin [_] (.m 3 (.v 0)) (.n 9) (.s 3 (.v 0) (.n 3) .z) rfl htl)
    refine runsE_cons (run_files (m := ts.length) [("left", .raw (.ref it))] (fun j => (octsT ts).getD j 0) (fun j hj => by rw [List.getElem?_map, getD_some 0 (by exact (lin [_, _, _] (.a (.v 0) (.n 1)) (.v 1) (.e 0 1 (.v 1) (.m 3 (.v 2)) (.s 1 (.a (.v 0) (.n 1)) (.m 3 (.v 2)) .z)) rfl hol hj))]; rfl) (fun i hi => ?_) (src_of (di := .rng 0 ((3 * ts.length : Nat) : Int) 3) (ev_tcall (ds := [dz 0, dz (3 * ts.length), dz 3]) bv (evl_cons (nt 0) (evl_cons ?_ (evl_cons (nt 3) evl_nil))) (bc_range3 (by decide) (by decide))) (by rw [← rngItems_three]; exact iters_range (rangeSize_three _) (small_three (by omega)))) (scopeOk ["left"] (.cons (by rfl) (.inl (by rfl)) (by rfl) .nil)) (by omega) (fun d => gv) (fun d => cv) swaps_of ?_)
    · obtain ⟨t, ht⟩ : ∃ t, ts[i]? = some t := ⟨ts[i], List.getElem?_eq_getElem hi⟩
      obtain ⟨g0, g1, g2⟩ := octsT_get ts i t ht
      rw [g0, g1, g2]
      exact ⟨hi1 _ _, hi1 _ _, hi0 _ _⟩
    · have e : 3 * ts.length = (nz (octsT ts)).length := by rw [List.length_map, hol]
      rw [e]
      exact llen bv lv (by omega)
    have hfiles : ((List.range ts.length).map fun i => dz (vint ((octsT ts).getD (3 * i) 0) ((octsT ts).getD (3 * i + 1) 0) ((octsT ts).getD (3 * i + 2) 0))) = nz (ts.map fileT) := by
      apply List.ext_getElem?
      intro i
      by_cases hi : i < ts.length
      · obtain ⟨g0, g1, g2⟩ := octsT_get ts i ts[i] (List.getElem?_eq_getElem hi)
        rw [List.getElem?_map, List.getElem?_range hi, List.getElem?_map, List.getElem?_map, List.getElem?_eq_getElem hi]
        simp only [Option.map_some]
        rw [g0, g1, g2]
        unfold vint fileT
        rw [lo1, lo1, lo0]
      · rw [List.getElem?_eq_none (by simp; exact (lin [_, _] (.v 0) (.v 1) (.s 1 (.v 0) (.v 1) .z) rfl (nlt' hi))), List.getElem?_eq_none (by simp; exact (lin [_, _] (.v 0) (.v 1) (.s 1 (.v 0) (.v 1) .z) rfl (nlt' hi)))]
    rw [hfiles]
    have hfl : (nz (ts.map fileT)).length ≤ 3 := by simp; omega
    -- the rows
    refine runsE_cons (runI_pure (run_comp1 [] (ts.map fileT) dz (fun m => ds (modeTxt m ++ [44])) (src_of lv (iters_list (seg_len (by simp; omega)))) (scopeOk [] .nil) (fun m _ => sadd (ev_call (ds := [dz m]) (d := ds (modeTxt m)) gv (evl_cons lv evl_nil) (by rfl) spec_filemode (by exact (Nat.le_of_ble_eq_true rfl)) (KKtab w) ⟨_, _, rfl, by intro _; rfl⟩) (Mine.st [44]) (by rw [mode_len]; simp)) (seg_len (by simp; omega)) swaps_of ?_))
    have hgO := goodO hwok
    have hgS := goodSi hwok
    have hlO : (itemsO (wsT ts)).length ≤ 66 := by have := itemsO_len (wsT ts); exact (lin [_, _] (.v 0) (.n 66) (.s 11 (.v 1) (.n 6) (.s 1 (.v 0) (.m 11 (.v 1)) .z)) rfl hwl this)
    have hlS : (itemsS (wsT ts)).length ≤ 66 := by have := itemsS_len (wsT ts); exact (lin [_, _] (.v 0) (.n 66) (.s 11 (.v 1) (.n 6) (.s 1 (.v 0) (.m 11 (.v 1)) .z)) rfl hwl this)
    have htO := text_len _ hgO
    have htS := text_len _ hgS
    have hpO : (partsOf (itemsO (wsT ts))).length ≤ 66 := Nat.le_trans (partsOf_len _) hlO
    have hpS : (partsOf (itemsS (wsT ts))).length ≤ 66 := Nat.le_trans (partsOf_len _) hlS
    have hwl2 : ((wsT ts).map wishV).length ≤ 6 := by rw [List.length_map]; exact hwl
    refine runsE_cons (runI_pure (run_assign (v := .d (psD (piecesOf (partsOf (itemsO (wsT ts)))))) (ev_call (ds := [.list ((partsOf (itemsO (wsT ts))).map partD)]) gv (evl_cons (ev_call (ds := [ds (textOf (itemsO (wsT ts))), .none, ds [46]]) (d := .list ((partsOf (itemsO (wsT ts))).map optD)) gv (evl_cons ?_ (evl_cons ev_none (evl_cons (Mine.st [46]) evl_nil))) (by rfl) (spec_translate (fun it hit => good_ok (hgO it hit)) (by omega) (by exact (lin [_, _] (.v 0) (.n 50000) (.s 502 (.v 1) (.n 66) (.s 1 (.v 0) (.m 502 (.v 1)) .z)) rfl hlO htO))) (by exact (Nat.le_of_ble_eq_true rfl)) (KKtab w) ⟨_, _, rfl, by intro _; rfl⟩) evl_nil) (by rfl) (spec_pieces (by omega) (parts_ok hgO)) (by exact (Nat.le_of_ble_eq_true rfl)) (KKtab w) ⟨_, _, rfl, by intro _; rfl⟩) (by rfl) ?_))
    · rw [text_octW]
      have hw : (((wsT ts).map octW).map (·.length)).sum + ((wsT ts).map octW).length ≤ 1048576 := by
        have e : (((wsT ts).map octW).map (·.length)).sum = (textOf (itemsO (wsT ts))).length := by rw [text_octW, joinL_nil, List.length_flatten]
        rw [e, List.length_map]; exact (lin [_, _, _] (.a (.v 0) (.v 1)) (.n 1048576) (.s 1 (.v 1) (.n 6) (.s 502 (.v 2) (.n 66) (.s 1 (.v 0) (.m 502 (.v 2)) .z))) rfl hwl hlO htO)
      have em : ((wsT ts).map octW).map ds = (wsT ts).map (fun w => ds (octW w)) := by rw [List.map_map]; rfl
      refine ev_join (sep := []) (l := (wsT ts).map octW) (Mine.st []) ?_ (by decide) hw
      rw [em]
      refine ev_comp1 [] (wsT ts) wishV (fun w => ds (octW w)) (src_of lv (iters_list (seg_len (by omega)))) (scopeOk [] .nil) (fun wi hwi => ?_) (seg_len (by omega))
      refine ev_call (n := 2) (f := 138) (ds := [wishV wi]) gv (evl_cons lv evl_nil) (by rfl) ?_ (by exact (Nat.le_of_ble_eq_true rfl)) (KKtab w) ⟨_, _, rfl, by intro _; rfl⟩
      cases wi with
      | none => exact spec_octets_star
      | some l =>
        have h := hwok l hwi
        show Spec prog w (KK w) 2 _ [wishD l] (ds (textOf (itO l)))
        rw [itO_text]
        obtain ⟨k, a', o, g, t', rfl⟩ : ∃ k a o g t, l = [k, a, o, g, t] := by
          match l, h.len with
          | [k, a, o, g, t], _ => exact ⟨k, a, o, g, t, rfl⟩
        exact spec_octets (fun x q => (h.k x q).1) h.a h.o h.g h.t
    refine runsE_cons (runI_pure (run_assign (v := .d (psD (piecesOf (partsOf (itemsS (wsT ts)))))) (ev_call (ds := [.list ((partsOf (itemsS (wsT ts))).map partD)]) gv (evl_cons (ev_call (ds := [ds (textOf (itemsS (wsT ts))), .none, ds [46]]) (d := .list ((partsOf (itemsS (wsT ts))).map optD)) gv (evl_cons ?_ (evl_cons ev_none (evl_cons (Mine.st [46]) evl_nil))) (by rfl) (spec_translate (fun it hit => good_ok (hgS it hit)) (by omega) (by exact (lin [_, _] (.v 0) (.n 50000) (.s 502 (.v 1) (.n 66) (.s 1 (.v 0) (.m 502 (.v 1)) .z)) rfl hlS htS))) (by exact (Nat.le_of_ble_eq_true rfl)) (KKtab w) ⟨_, _, rfl, by intro _; rfl⟩) evl_nil) (by rfl) (spec_pieces (by omega) (parts_ok hgS)) (by exact (Nat.le_of_ble_eq_true rfl)) (KKtab w) ⟨_, _, rfl, by intro _; rfl⟩) (by rfl) ?_))
    · rw [text_sgnW]
      have hw : (((wsT ts).map sgnW).map (·.length)).sum + ((wsT ts).map sgnW).length ≤ 1048576 := by
        have e : (((wsT ts).map sgnW).map (·.length)).sum = (textOf (itemsS (wsT ts))).length := by rw [text_sgnW, joinL_nil, List.length_flatten]
        rw [e, List.length_map]; exact (lin [_, _, _] (.a (.v 0) (.v 1)) (.n 1048576) (.s 1 (.v 1) (.n 6) (.s 502 (.v 2) (.n 66) (.s 1 (.v 0) (.m 502 (.v 2)) .z))) rfl hwl hlS htS)
      have em : ((wsT ts).map sgnW).map ds = (wsT ts).map (fun w => ds (sgnW w)) := by rw [List.map_map]; rfl
      refine ev_join (sep := []) (l := (wsT ts).map sgnW) (Mine.st []) ?_ (by decide) hw
      rw [em]
      refine ev_comp1 [] (wsT ts) wishV (fun w => ds (sgnW w)) (src_of lv (iters_list (seg_len (by omega)))) (scopeOk [] .nil) (fun wi hwi => ?_) (seg_len (by omega))
      refine ev_call (n := 2) (f := 143) (ds := [wishV wi]) gv (evl_cons lv evl_nil) (by rfl) ?_ (by exact (Nat.le_of_ble_eq_true rfl)) (KKtab w) ⟨_, _, rfl, by intro _; rfl⟩
      cases wi with
      | none => exact spec_signs_star
      | some l =>
        have h := hwok l hwi
        show Spec prog w (KK w) 2 _ [wishD l] (ds (textOf (itS l)))
        rw [itS_text]
        obtain ⟨k, a', o, g, t', rfl⟩ : ∃ k a o g t, l = [k, a, o, g, t] := by
          match l, h.len with
          | [k, a, o, g, t], _ => exact ⟨k, a, o, g, t, rfl⟩
        exact spec_signs (fun x q => (h.k x q).1)
    refine runsE_cons (runI_pure (run_assign (v := .d (.list (bz (answersOf (wsT ts) (ts.map fileT))))) (ev_call (ds := [.list ((wsT ts).map wishV), .list (nz (ts.map fileT))]) gv (evl_cons lv (evl_cons lv evl_nil)) (by rfl) (spec_answers (by omega) (by simp; omega) (fun l hl => by rw [(hwok l hl).len]; decide)) (by exact (Nat.le_of_ble_eq_true rfl)) (KKtab w) ⟨_, _, rfl, by intro _; rfl⟩) (by rfl) ?_))
    let FS : State := ⟨[("by_octets", .d (psD (piecesOf (partsOf (itemsO (wsT ts)))))), ("by_signs", .d (psD (piecesOf (partsOf (itemsS (wsT ts)))))), ("due", .d (.list (bz (answersOf (wsT ts) (ts.map fileT))))), ("octets", .d (.list (nz (octsT ts)))), ("rows", .d (.list ((ts.map fileT).map fun m => ds (modeTxt m ++ [44])))), ("files", .d (.list (nz (ts.map fileT)))), ("left", .d (.raw (.ref it)))], [.dead, .dead]⟩
    refine runsE_weaken (S' := FS) (has rfl ⟨rfl, rfl, rfl, rfl, rfl, rfl, rfl, trivial⟩) ?_
    refine runsE_cons (runI_pure (run_forH (List.range (ts.length + 1)) dz (fun d => [("place", d)]) (fun _ => FS) (fun _ => True) ?_ (fun i _ => binds_name (by rfl)) (.refl _) trivial (fun i j hi _ => ?_) fun _ => runs_nil ?_))
    · rw [show (List.range (ts.length + 1)).map dz = rngItems 0 1 (ts.length + 1) from (rngItems_up _).symm]
      refine src_of (ev_tcall (ds := [dz (ts.length + 1)]) bv (evl_cons ?_ evl_nil) bc_range1) (iters_range1 (by exact (lin [_] (.a (.a (.v 0) (.n 1)) (.n 1)) (.n 4611686018427387904) (.s 1 (.v 0) (.n 3) .z) rfl htl)))
      have e : ts.length = (nz (ts.map fileT)).length := by simp
      refine nadd ?_ (nt 1)
      rw [e]
      exact llen bv lv (by omega)
    · have hil : i < ts.length + 1 := by
        have := (List.getElem?_eq_some_iff.mp hi).1
        simpa using this
      have hj : j = i := by rw [List.getElem?_range hil] at hi; cases hi; rfl
      subst hj
      have halen : (answersOf (wsT ts) (ts.map fileT)).length = ts.length + 1 := by
        have := ansFrom_len (ts.map fileT) (wsT ts).reverse
        rw [List.length_map] at this; exact this
      have hdue : (bz (answersOf (wsT ts) (ts.map fileT)))[j]? = some (.bool ((answersOf (wsT ts) (ts.map fileT)).getD j false)) := by
        rw [List.getElem?_map, getD_some false (by exact (lin [_, _, _] (.a (.v 0) (.n 1)) (.v 1) (.s 1 (.a (.v 0) (.n 1)) (.a (.v 2) (.n 1)) (.e 0 1 (.v 1) (.a (.v 2) (.n 1)) .z)) rfl hil halen))]; rfl
      have hbl : (bz (answersOf (wsT ts) (ts.map fileT))).length = ts.length + 1 := by rw [List.length_map, halen]
      have so := side_octets hwok ts j (by exact (lin [_, _] (.v 0) (.v 1) (.s 1 (.a (.v 0) (.n 1)) (.a (.v 1) (.n 1)) .z) rfl hil))
      have ss := side_signs hwok ts j (by exact (lin [_, _] (.v 0) (.v 1) (.s 1 (.a (.v 0) (.n 1)) (.a (.v 1) (.n 1)) .z) rfl hil))
      have hnO : ((ts.drop j).flatMap octT).length ≤ 9 := by
        have := flat_le octT 3 (ts.drop j) (fun a _ => Nat.le_refl _)
        rw [List.length_drop] at this; exact (lin [_, _, _] (.v 0) (.n 9) (.s 3 (.v 1) (.n 3) (.s 1 (.v 0) (.m 3 (.v 2)) (.s 3 (.v 2) (.v 1) .z))) rfl htl this (Nat.sub_le _ _))
      have hnS : ((ts.drop j).flatMap rowT).length ≤ 33 := by
        have := flat_le rowT 11 (ts.drop j) (fun a _ => by show (modeTxt _ ++ [44]).length ≤ 11; rw [List.length_append, mode_len]; decide)
        rw [List.length_drop] at this; exact (lin [_, _, _] (.v 0) (.n 33) (.s 11 (.v 1) (.n 3) (.s 1 (.v 0) (.m 11 (.v 2)) (.s 11 (.v 2) (.v 1) .z))) rfl htl this (Nat.sub_le _ _))
      refine runs_cons (run_if (b := takes (piecesOf (partsOf (itemsO (wsT ts)))) ((ts.drop j).flatMap octT) != (answersOf (wsT ts) (ts.map fileT)).getD j false) (tests_cmp (ev_call (ds := [psD (piecesOf (partsOf (itemsO (wsT ts)))), ds ((ts.drop j).flatMap octT)]) (d := .bool (takes (piecesOf (partsOf (itemsO (wsT ts)))) ((ts.drop j).flatMap octT))) gv (evl_cons lv (evl_cons ?_ evl_nil)) (by rfl) (spec_takes (ps_ok hgO (by omega)) (by omega)) (by exact (Nat.le_of_ble_eq_true rfl)) (KKtab w) ⟨_, _, rfl, by intro _; rfl⟩) (lidx lv lv (by exact (lin [_, _, _] (.a (.v 0) (.n 1)) (.v 1) (.s 1 (.a (.v 0) (.n 1)) (.a (.v 2) (.n 1)) (.e 0 1 (.v 1) (.a (.v 2) (.n 1)) .z)) rfl hil hbl)) hdue (by exact (lin [_, _] (.v 0) (.n 100000) (.s 1 (.v 1) (.n 3) (.e 1 0 (.v 0) (.a (.v 1) (.n 1)) .z)) rfl htl hbl))) op_ne_bool) (fun h => ?_) fun _ => runs_nil ?_)
      · have hd : (octsT ts).drop (3 * j) = (ts.drop j).flatMap octT := octsT_drop ts j
        have hL : slc (nz (octsT ts)) (some ((3 * j : Nat) : Int)) none = nz ((ts.drop j).flatMap octT) := by rw [slc_map, slc_from, hd]
        have hbd : ∀ x ∈ (ts.drop j).flatMap octT, x < 1114112 := fun x hx => octT_lt _ x hx
        have hj1 : joinL [] (((ts.drop j).flatMap octT).map fun x => [x]) = (ts.drop j).flatMap octT := join_one _
        have em : (((ts.drop j).flatMap octT).map fun x => [x]).map ds = ((ts.drop j).flatMap octT).map (fun x => ds [x]) := by rw [List.map_map]; rfl
        have key : ∀ {r : List Nat}, r = (ts.drop j).flatMap octT → joinL [] (r.map fun x => [x]) = (ts.drop j).flatMap octT := fun h => by rw [h]; exact hj1
        rw [← hj1]
        refine ev_join (sep := []) (l := ((ts.drop j).flatMap octT).map fun x => [x]) (Mine.st []) ?_ (by decide) (sum_ones _ (by omega))
        rw [em]
        refine ev_comp1 [] ((ts.drop j).flatMap octT) dz (fun x => ds [x]) (src_of (di := .list (nz ((ts.drop j).flatMap octT))) ?_ (iters_list (seg_len (by rw [List.length_map]; omega)))) (scopeOk [] .nil) (fun x hx => schr bv lv (hbd x hx)) (seg_len (by omega))
        rw [← hL]
        exact ev_slice_list lv (.some (nmul (nt 3) lv)) .none (seg_len (by omega))
      · rw [so] at h; simp at h
      refine runs_cons (run_if (b := takes (piecesOf (partsOf (itemsS (wsT ts)))) ((ts.drop j).flatMap rowT) != (answersOf (wsT ts) (ts.map fileT)).getD j false) (tests_cmp (ev_call (ds := [psD (piecesOf (partsOf (itemsS (wsT ts)))), ds ((ts.drop j).flatMap rowT)]) (d := .bool (takes (piecesOf (partsOf (itemsS (wsT ts)))) ((ts.drop j).flatMap rowT))) gv (evl_cons lv (evl_cons ?_ evl_nil)) (by rfl) (spec_takes (ps_ok hgS (by omega)) (by omega)) (by exact (Nat.le_of_ble_eq_true rfl)) (KKtab w) ⟨_, _, rfl, by intro _; rfl⟩) (lidx lv lv (by exact (lin [_, _, _] (.a (.v 0) (.n 1)) (.v 1) (.s 1 (.a (.v 0) (.n 1)) (.a (.v 2) (.n 1)) (.e 0 1 (.v 1) (.a (.v 2) (.n 1)) .z)) rfl hil hbl)) hdue (by exact (lin [_, _] (.v 0) (.n 100000) (.s 1 (.v 1) (.n 3) (.e 1 0 (.v 0) (.a (.v 1) (.n 1)) .z)) rfl htl hbl))) op_ne_bool) (fun h => ?_) fun _ => runs_nil (runs_nil ⟨trivial, has rfl ⟨rfl, rfl, rfl, rfl, rfl, rfl, rfl, trivial⟩⟩))
      · have hL : slc ((ts.map fileT).map fun m => ds (modeTxt m ++ [44])) (some ((j : Nat) : Int)) none = ((ts.drop j).map rowT).map ds := by
          rw [slc_from, List.map_map, List.map_map, List.map_drop]; rfl
        have hj1 : joinL [] ((ts.drop j).map rowT) = (ts.drop j).flatMap rowT := by rw [joinL_nil, List.flatMap_def]
        rw [← hj1]
        refine ev_join (sep := []) (l := (ts.drop j).map rowT) (Mine.st []) ?_ (by decide) ?_
        · rw [← hL]
          exact ev_slice_list lv (.some lv) .none (seg_len (by simp; omega))
        · have e : (((ts.drop j).map rowT).map (·.length)).sum = ((ts.drop j).flatMap rowT).length := by rw [List.flatMap_def, List.length_flatten]
          rw [e, List.length_map, List.length_drop]; exact (lin [_, _, _] (.a (.v 0) (.v 1)) (.n 1048576) (.s 1 (.v 2) (.n 3) (.s 1 (.v 0) (.n 33) (.s 1 (.v 1) (.v 2) .z))) rfl htl hnS (Nat.sub_le _ _))
      · rw [ss] at h; simp at h
    · exact runsE_ret bv cv (by rw [List.length_map, hol]; exact (lin [_] (.m 3 (.v 0)) (.m 3 (.v 0)) .z rfl)) rfl
end
end Mine
end

-- the text F1
section
open PySem PySem.Calls PySem.W PyProof.Rows
set_option maxRecDepth 100000
namespace Mine
noncomputable def blank (h : Heap) : PH := fun b => if b = tabA then none else h.get? b
theorem isL_ints {G : PH} : ∀ {vs : List Value} {z : List Int}, IntsAre vs z → IsL G (z.map D.int) vs
  | _, _, .nil => .nil
  | _, _, .cons _ _ h => .cons (.int _ _) (isL_ints h)
theorem law_ends {w : World} {s : Shared} {a : Addr} {vs : List Value} {z : List Int} {c : ClaimW} {cl : Str → Option Addr} {mean : ExcName → Option Value} {args : List WData}
    (T : TopF (KK w) s.heap) (h57 : s.heap.get? tabA = some (tabObj #[])) (hg : s.gens = #[]) (hl : s.heap.IsList a vs.toArray) (hI : IntsAre vs z) (hz : z.length ≤ 63)
    (hr : ∀ cls, c.raises args cls = false) (hp : c.post args (.bool true) args = true) :
    codeAny (model PySem.Challenge.rw_rx0040_01.row.prog w) callerA (.call (.ref 191) ⟨[.ref a], []⟩) (GoodWG c cl mean args s) s := by
  have ne57 : a ≠ tabA := fun q => by
    obtain ⟨o, ho, hc, _⟩ := hl
    rw [q, h57] at ho; cases ho; cases hc
  have hsub : PSub (blank s.heap) s.heap := fun b o e => by
    unfold blank at e
    by_cases q : b = tabA
    · rw [if_pos q] at e; cases e
    · rwa [if_neg q] at e
  have hK : ∀ b o, (KK w).lookup b = some o → blank s.heap b = some o := fun b o e => by
    have hb : b ≠ tabA := fun q => by rw [q, KKtab w] at e; cases e
    unfold blank
    rw [if_neg hb]; exact T.obj b o e
  have hd : IsL (blank s.heap) [D.list (z.map D.int)] [Value.ref a] := by
    obtain ⟨o, ho, hc, n, hdt⟩ := hl
    refine .cons (.list (vs := vs.toArray) (n := n) ?_ hc hdt (isL_ints hI)) .nil
    unfold blank
    rw [if_neg ne57]; exact ho
  have hti : TabInv (blank s.heap) s.heap := ⟨#[], h57, by show True; trivial, fun c h => by cases h⟩
  refine codeAny_mono (spec_law z hz callerA s (blank s.heap) [.ref a] (room_caller.le (by decide)) T (KKtab w) hti (.of_eq hg) hsub (if_pos rfl) hK hd) fun r s' ⟨v, G', hv, g, hi⟩ => ?_
  subst hv
  obtain rfl := Is.inv hi
  refine ⟨.inl ⟨_, _, [], rfl, hr, .bool true, hp, fun _ => ⟨.nil, fun a h => nomatch h⟩⟩, ⟨fun b o e => ?_, g.there⟩, g.os, g.gens (.of_eq hg)⟩
  by_cases q : b = tabA
  · subst q
    obtain ⟨ps, e2, _⟩ := g.tab hti
    rw [h57] at e; cases e
    refine .inr (.inl ⟨(T.codeHd.tab h57).isCodeTable, rfl, #[], ps, rfl, ?_⟩)
    rw [e2]; simp
  · exact .inl (g.keep b o (by simpa using q) e)
end Mine
end

open PySem PySem.Calls PySem.W PyProof.Rows
set_option maxRecDepth 100000 in
set_option tactic.hygienic true in
set_option maxHeartbeats 8000000 in
theorem PySem.Challenge.cw_rx0040_01_holds : PySem.Challenge.rw_rx0040_01.Holds := by
  refine Mine.hd ?_
  k_fill
  intro w s₀ s₁ mg mb G Y fa o pm cd doc dV kV ho hd hcd hD hmg hg args vals as hpre hlay hrd hwl hlo
  have KX := km_in_of Y
  km_tabs Y
  have X := (Ground.X G).1
  have V := (Ground.X G).2
  refine Ground.open G ?_
  intro T B D TE TW
  try (refine guard_noD D (by decide +kernel) ?_; clear D)
  clear X V TW TE B hcd
  clear ho hd
  have hfa : fa = 191 := by
    have e : mg (PySem.Str.ofString "law") = some (.ref 191) := mg_of KX T.g (by kernel_rfl)
    have e2 : mg (PySem.Str.ofString "law") = some (.ref fa) := hmg
    rw [e] at e2; cases e2; rfl
  subst hfa
  clear hmg
  wrow_args hpre hlay hrd hwl hlo
  have hT : Mine.TopF (Mine.KK w) s₁.heap := by
    obtain ⟨bm, ob, e1, e2, e3, e4, e5, e6⟩ := T.bmain
    have e : mg (PySem.Str.ofString "__builtins__") = some (.ref 4) := mg_of KX T.g (by kernel_rfl)
    have e1' : mg (PySem.Str.ofString "__builtins__") = some (.ref bm) := e1
    rw [e] at e1'; cases e1'
    exact ⟨KX, ⟨_, T.g⟩, ⟨_, T.b, fun x hx => T.builtins x (by intro q; subst q; revert hx; decide +kernel)⟩, T.nolimit, ⟨ob, e3, e4, e5, e6⟩⟩
  rename_i hl _ _ _ hI _ hc _
  have h57 : s₁.heap.get? 57 = some (tabObj #[]) := hT8 57 (by simp)
  refine enter_call ?_
  exact Mine.law_ends hT h57 hg hl hI (by omega) (fun _ => rfl) (by wrow_post)
