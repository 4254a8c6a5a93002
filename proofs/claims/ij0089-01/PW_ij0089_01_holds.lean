import PyProof.Rows.All
import Wide.All
import OpenK.AllK
import Wide.FinOn
import PySem.Challenge.RW_ij0089_01
set_option linter.all false
set_option compiler.extract_closed false
section
open PySem PySem.W PyProof.Rows
set_option Elab.async false
set_option maxRecDepth 100000
set_option maxHeartbeats 8000000
namespace Mine
def qc : Str := Str.ofString "a"
theorem qe : qc = qc := rfl
name_quick tw219737044198020058 for Mine.qc by Mine.qe
name_quick tw7721631327575515661 for Mine.qc by Mine.qe
name_quick tw10528696920762540405 for Mine.qc by Mine.qe
name_quick tw12233582284571471492 for Mine.qc by Mine.qe
name_quick tw1829445100760108279 for Mine.qc by Mine.qe
name_quick tw10010936943081839664 for Mine.qc by Mine.qe
name_quick tw14311459727803291754 for Mine.qc by Mine.qe
name_quick tw15007238320947547705 for Mine.qc by Mine.qe
name_quick tw14108194823987119177 for Mine.qc by Mine.qe
name_quick tw10948738476641704880 for Mine.qc by Mine.qe
name_quick tw3698559305507148144 for Mine.qc by Mine.qe
name_quick tw16531745337717519161 for Mine.qc by Mine.qe
name_quick tw12290603225136948437 for Mine.qc by Mine.qe
name_quick tw6122645084068987007 for Mine.qc by Mine.qe
name_quick tw8860024209350480642 for Mine.qc by Mine.qe
name_quick tw8719427161674164953 for Mine.qc by Mine.qe
name_quick tw16593013826814733010 for Mine.qc by Mine.qe
name_quick tw10887116778572429059 for Mine.qc by Mine.qe
name_quick tw17532440430192770315 for Mine.qc by Mine.qe
name_quick tw2478078296215019888 for Mine.qc by Mine.qe
name_quick tw1402947280878808549 for Mine.qc by Mine.qe
name_quick tw13678640442995254988 for Mine.qc by Mine.qe
name_quick tw11543547407058413889 for Mine.qc by Mine.qe
name_quick tw15066959818950650227 for Mine.qc by Mine.qe
name_quick tw2862820112641550484 for Mine.qc by Mine.qe
name_quick tw1218959903707654005 for Mine.qc by Mine.qe
name_quick tw2660918139993853925 for Mine.qc by Mine.qe
name_quick tw10938465397075749097 for Mine.qc by Mine.qe
name_quick tw4552823106982906706 for Mine.qc by Mine.qe
name_quick tw2039238271031011813 for Mine.qc by Mine.qe
name_quick tw5032809538720368765 for Mine.qc by Mine.qe
name_quick tw18345786424863182364 for Mine.qc by Mine.qe
name_quick tw505943868828395459 for Mine.qc by Mine.qe
name_quick tw8424611434330503625 for Mine.qc by Mine.qe
name_quick tw6654550962395885724 for Mine.qc by Mine.qe
name_quick tw2719445374943340272 for Mine.qc by Mine.qe
name_quick tw10424941004445345732 for Mine.qc by Mine.qe
name_quick tw7250012664060256230 for Mine.qc by Mine.qe
name_quick tw6733733256287894996 for Mine.qc by Mine.qe
name_quick tw8075568018651887793 for Mine.qc by Mine.qe
name_quick tw13493438630294217545 for Mine.qc by Mine.qe
name_quick tw14979626087600564940 for Mine.qc by Mine.qe
name_quick tw15163492979423080397 for Mine.qc by Mine.qe
name_quick tw8901101332624060146 for Mine.qc by Mine.qe
name_quick tw2245006971878993143 for Mine.qc by Mine.qe
name_quick tw13892231520521813962 for Mine.qc by Mine.qe
name_quick tw11935384120112590319 for Mine.qc by Mine.qe
name_quick tw8703263022893421829 for Mine.qc by Mine.qe
name_quick tw17000155066101142889 for Mine.qc by Mine.qe
name_quick tw9763268239775435451 for Mine.qc by Mine.qe
name_quick tw5200128776193632040 for Mine.qc by Mine.qe
name_quick tw3362959441861295915 for Mine.qc by Mine.qe
name_quick tw5111356299099525756 for Mine.qc by Mine.qe
name_quick tw13981391230805400906 for Mine.qc by Mine.qe
name_quick tw9862997608875712007 for Mine.qc by Mine.qe
name_quick tw8537084889766193716 for Mine.qc by Mine.qe
name_quick tw4658958612460137192 for Mine.qc by Mine.qe
name_quick tw11853533878840232495 for Mine.qc by Mine.qe
name_quick tw14386061602966655976 for Mine.qc by Mine.qe
name_quick tw17164873540382356111 for Mine.qc by Mine.qe
name_quick tw17070079461858475408 for Mine.qc by Mine.qe
name_quick tw9011979029575296479 for Mine.qc by Mine.qe
name_quick tw9697512110049397445 for Mine.qc by Mine.qe
name_quick tw9029142643779711378 for Mine.qc by Mine.qe
name_quick tw4388067698380316889 for Mine.qc by Mine.qe
name_quick tw4083366629787285363 for Mine.qc by Mine.qe
name_quick tw2921100012855380799 for Mine.qc by Mine.qe
name_quick tw15236012663528867214 for Mine.qc by Mine.qe
name_quick tw14676129246514791375 for Mine.qc by Mine.qe
name_quick tw14204384831589138817 for Mine.qc by Mine.qe
name_quick tw3577408171920636059 for Mine.qc by Mine.qe
name_quick tw10323183001455561277 for Mine.qc by Mine.qe
name_quick tw16214148842636244229 for Mine.qc by Mine.qe
name_quick tw6929956602132211858 for Mine.qc by Mine.qe
name_quick tw11566699232636054958 for Mine.qc by Mine.qe
name_quick tw5357591511691535388 for Mine.qc by Mine.qe
name_quick tw15480198773659482676 for Mine.qc by Mine.qe
name_quick tw11788150170368784547 for Mine.qc by Mine.qe
name_quick tw392140993173905013 for Mine.qc by Mine.qe
name_quick tw13789449189825218787 for Mine.qc by Mine.qe
name_quick tw17954471519018878134 for Mine.qc by Mine.qe
name_quick tw15278061642289888581 for Mine.qc by Mine.qe
name_quick tw4636218855388986860 for Mine.qc by Mine.qe
name_quick tw16804044748790271530 for Mine.qc by Mine.qe
name_quick tw4444965560193506482 for Mine.qc by Mine.qe
name_quick tw10996506086634736982 for Mine.qc by Mine.qe
name_quick tw14376985748213822385 for Mine.qc by Mine.qe
name_quick tw16741492637210864865 for Mine.qc by Mine.qe
name_quick tw5591276700874282246 for Mine.qc by Mine.qe
name_quick tw9948023125614773506 for Mine.qc by Mine.qe
name_quick tw2664551874359636763 for Mine.qc by Mine.qe
name_quick tw17730448691065144110 for Mine.qc by Mine.qe
name_quick tw11939915149646268982 for Mine.qc by Mine.qe
name_quick tw6679490504615227074 for Mine.qc by Mine.qe
name_quick tw14168537005229113720 for Mine.qc by Mine.qe
name_quick tw14126943448341045398 for Mine.qc by Mine.qe
name_quick tw14847034805825309785 for Mine.qc by Mine.qe
name_quick tw1205011080872041891 for Mine.qc by Mine.qe
name_quick tw6817277305950994716 for Mine.qc by Mine.qe
name_quick tw10942035263794033107 for Mine.qc by Mine.qe
name_quick tw4797165386629745026 for Mine.qc by Mine.qe
name_quick tw17100903815162463580 for Mine.qc by Mine.qe
name_quick tw16349804527192203551 for Mine.qc by Mine.qe
name_quick tw10227693086864044499 for Mine.qc by Mine.qe
name_quick tw1651231452613355621 for Mine.qc by Mine.qe
name_quick tw10253492065209306289 for Mine.qc by Mine.qe
name_quick tw9764882154061713095 for Mine.qc by Mine.qe
name_quick tw3152983702415266003 for Mine.qc by Mine.qe
name_quick tw17672482021469178181 for Mine.qc by Mine.qe
name_quick tw17279654841073493023 for Mine.qc by Mine.qe
name_quick tw11420187438672877268 for Mine.qc by Mine.qe
name_quick tw9908251947323293946 for Mine.qc by Mine.qe
name_quick tw18416463498863911781 for Mine.qc by Mine.qe
name_quick tw8693227569615203950 for Mine.qc by Mine.qe
name_quick tw662354867322794072 for Mine.qc by Mine.qe
name_quick tw2452820758585089575 for Mine.qc by Mine.qe
name_quick tw2354135333415324597 for Mine.qc by Mine.qe
name_quick tw13036272033356848781 for Mine.qc by Mine.qe
name_quick tw117213463901210413 for Mine.qc by Mine.qe
name_quick tw4933834842325187142 for Mine.qc by Mine.qe
name_quick tw9407582987413476825 for Mine.qc by Mine.qe
name_quick tw7892128664451923741 for Mine.qc by Mine.qe
name_quick tw16661375180360627877 for Mine.qc by Mine.qe
name_quick tw17828083071136270317 for Mine.qc by Mine.qe
name_quick tw3094477031063562474 for Mine.qc by Mine.qe
name_quick tw6380047634161181297 for Mine.qc by Mine.qe
name_quick tw17552769576498331613 for Mine.qc by Mine.qe
name_quick tw16018607276475445134 for Mine.qc by Mine.qe
name_quick tw15894407043143930727 for Mine.qc by Mine.qe
name_quick tw2627984346626558326 for Mine.qc by Mine.qe
name_quick tw9285146279643344392 for Mine.qc by Mine.qe
name_quick tw5349121933718820234 for Mine.qc by Mine.qe
name_quick tw4527066259768149269 for Mine.qc by Mine.qe
name_quick tw3619232141914619222 for Mine.qc by Mine.qe
name_quick tw16414604833108395602 for Mine.qc by Mine.qe
name_quick tw9529234661008812162 for Mine.qc by Mine.qe
name_quick tw11729385059970357855 for Mine.qc by Mine.qe
name_quick tw8789221427942488352 for Mine.qc by Mine.qe
open_top hd for PySem.Challenge.rw_ij0089_01
end Mine
end
section
open PySem PySem.W PyProof.Rows PySem.Calls
set_option Elab.async false
set_option maxRecDepth 100000
set_option maxHeartbeats 4000000
namespace Mine
abbrev MP : Program := PySem.Challenge.rw_ij0089_01.row.prog
abbrev AA (dp un : Nat) (fr : Option (List Env)) (gd : Option (List Code)) : Around := { handled := none, depth := dp, frames := fr, guards := gd, units := un }
theorem fillG {G : Prop} (h : hd.heap_39 = hd.heap_39 → PySem.Challenge.rw_ij0089_01 = PySem.Challenge.rw_ij0089_01 → G) : G := h rfl rfl
theorem ex4 {α β γ δ : Type _} {p : α → β → γ → δ → Prop} (a : α) (b : β) (c : γ) (d : δ) (h : p a b c d) : ∃ a b c d, p a b c d := ⟨a, b, c, d, h⟩
theorem ex5 {α β γ δ ε : Type _} {p : α → β → γ → δ → ε → Prop} (a : α) (b : β) (c : γ) (d : δ) (e : ε) (h : p a b c d e) : ∃ a b c d e, p a b c d e := ⟨a, b, c, d, e, h⟩
theorem exE5 {α β γ δ ε : Type _} {p : α → β → γ → δ → ε → Prop} {G : Prop} (h : ∃ a b c d e, p a b c d e) (k : ∀ a b c d e, p a b c d e → G) : G := let ⟨a, b, c, d, e, q⟩ := h; k a b c d e q
theorem exE7 {α β γ δ ε ζ η : Type _} {p : α → β → γ → δ → ε → ζ → η → Prop} {G : Prop} (h : ∃ a b c d e f g, p a b c d e f g) (k : ∀ a b c d e f g, p a b c d e f g → G) : G := let ⟨a, b, c, d, e, f, g, q⟩ := h; k a b c d e f g q
/-- h' keeps every object of h -/
def Kp (h h' : Heap) : Prop := ∀ b o, h.get? b = some o → h'.get? b = some o
theorem Kp.refl {h : Heap} : Kp h h := fun _ _ e => e
theorem Kp.trans {h h' h'' : Heap} (a : Kp h h') (b : Kp h' h'') : Kp h h'' := fun x o e => b x o (a x o e)
/-- what was made -/
def Fsh (h h' : Heap) (tl : List (Addr × Obj)) : Prop := ∀ p ∈ tl, h'.get? p.1 = some p.2 ∧ h.get? p.1 = none
theorem Fsh.nil {h h' : Heap} : Fsh h h' [] := fun _ hp => nomatch hp
/-- what stands of the module -/
def St (w : World) (h : Heap) : Prop := (hd.heap_39 w.params).In h ∧ ∃ p loose mean mg mb, Top p loose mean mg mb h
theorem St.keeps {w : World} {h h' : Heap} (x : St w h) (k : Kp h h') : St w h' := by
  obtain ⟨X, p, loose, mean, mg, mb, T⟩ := x; exact ⟨X.keeps k, p, loose, mean, mg, mb, T.keeps k⟩

def Spec (w : World) (f : Addr) (vs : List Value) (D U : Nat) (h : Heap) (R : List (Addr × Obj) → Value → Prop) : Prop :=
  ∀ (A : Around) (s : Shared) (Q E : Value → Shared → Prop), A.handled = none → A.depth + D < recursionLimit → A.units + U < cLine → s.heap = h →
    (∀ v tl h' tk', Kp h h' → Fsh h h' tl → R tl v → Q v { s with heap := h', toks := tk' }) → wpAny (model MP w) A (call (.ref f) vs) Q E s

theorem fr_after {h₀ h h' : Heap} {L : Addr} {m : Str → Option Value} (F : Fr h₀ L h m) (k : Kp h h') : Fr h₀ L h' m := ⟨F.ns.keeps k, fun b o e => k b o (F.keep b o e), F.above⟩
theorem news_after {h₀ h h' : Heap} {L : Addr} {m : Str → Option Value} {own tl : List (Addr × Obj)} (F : Fr h₀ L h m) (N : News h₀ L h own) (k : Kp h h') (f : Fsh h h' tl) : News h₀ L h' (own ++ tl) := fun p hp => by
  rcases List.mem_append.mp hp with hp | hp
  · exact ⟨k _ _ (N p hp).1, (N p hp).2⟩
  · refine ⟨(f p hp).1, fun e => ?_, ?_⟩
    · obtain ⟨o, _, _, ho, _⟩ := F.ns
      have := (f p hp).2
      rw [e, ho] at this; cases this
    · cases q : h₀.get? p.1 with
      | none => rfl
      | some o => have := (f p hp).2; rw [F.keep _ _ q] at this; cases this
theorem off_after {h₀ h h' : Heap} {L : Addr} {own tl : List (Addr × Obj)} (N : News h₀ L h own) (f : Fsh h h' tl) : OwnOff tl (own.map (·.1)) := fun p hp b hb e => by
  obtain ⟨q, hq, rfl⟩ := List.mem_map.mp hb
  have := (f p hp).2
  rw [e, (N q hq).1] at this; cases this

theorem use_spec {w : World} {f : Addr} {vs : List Value} {D U : Nat} {s : Shared} {R : List (Addr × Obj) → Value → Prop} {A : Around} {Q E : Value → Shared → Prop} {h₀ : Heap} {L : Addr} {m : Str → Option Value} {own : List (Addr × Obj)}
    (C : Spec w f vs D U s.heap R) (hA : A.handled = none) (hd : A.depth + D < recursionLimit) (hu : A.units + U < cLine) (F : Fr h₀ L s.heap m) (N : News h₀ L s.heap own)
    (k : ∀ v tl h' tk', Fr h₀ L h' m → News h₀ L h' (own ++ tl) → OwnOff tl (own.map (·.1)) → R tl v → Q v { s with heap := h', toks := tk' }) : wpAny (model MP w) A (call (.ref f) vs) Q E s :=
  C A s Q E hA hd hu rfl fun v tl h' tk' kp fs r => k v tl h' tk' (fr_after F kp) (news_after F N kp fs) (off_after N fs) r

section
variable {w : World} {K : Frag} {D U : Nat} {h : Heap} {R : List (Addr × Obj) → Value → Prop} {p : Program} {loose : List Str} {mean : ExcName → Option Value} {mg mb : Str → Option Value}
  {name qual : Str} {params : Arguments} {body : List Stmt} {scope : Scope} {dV kV doc pm cdv ct oc : Value} {an od : Option Addr} {osl : Array (Option Value)} {f : Addr} {vals : List Value}

theorem fsh_of {h h' : Heap} {L : Addr} {tl : List (Addr × Obj)} (N : News h L h' tl) : Fsh h h' tl := fun p hp => ⟨(N p hp).1, (N p hp).2.2⟩
theorem kp_of {h h' : Heap} {L : Addr} {m : Str → Option Value} (F : Fr h L h' m) : Kp h h' := F.keep
end
/-- an item -/
inductive It where
  | star | any
  | sign (c : Nat)
  | br (neg : Bool) (a b c : Nat)
def It.front : It → Str
  | .star => "*" | .any => "?" | .sign _ => "" | .br neg _ _ _ => if neg then "[!" else "["
def It.codes : It → List Int
  | .star | .any => []
  | .sign c => [(c : Int)]
  | .br _ a b c => [(a : Int), (b : Int), (c : Int)]
def itOf (x : Int) : It :=
  if x.fmod 8 < 2 then (if x.fmod 8 < 1 then .star else .any)
  else if x.fmod 8 < 5 then .sign ((x.fdiv 8).fmod 256).toNat
  else .br (!decide (x.fmod 8 < 7)) ((x.fdiv 8).fmod 256).toNat ((x.fdiv 2048).fmod 256).toNat ((x.fdiv 524288).fmod 256).toNat
def ItIn (tl : List (Addr × Obj)) (v : Value) (it : It) : Prop :=
  ∃ a l vs t n1 n2, v = .ref a ∧ (a, W.listOf #[.str it.front t, .ref l] n1) ∈ tl ∧ (l, W.listOf (List.toArray vs) n2) ∈ tl ∧ IntsAre vs it.codes
theorem ItIn.mono {tl tl' : List (Addr × Obj)} {v : Value} {it : It} (x : ItIn tl v it) (k : ∀ p ∈ tl, p ∈ tl') : ItIn tl' v it := by
  obtain ⟨a, l, vs, t, n1, n2, e, h1, h2, h3⟩ := x; exact ⟨a, l, vs, t, n1, n2, e, k _ h1, k _ h2, h3⟩
def ItAt (h : Heap) (v : Value) (it : It) : Prop :=
  ∃ a l vs t, v = .ref a ∧ h.IsList a #[.str it.front t, .ref l] ∧ h.IsList l (List.toArray vs) ∧ IntsAre vs it.codes
end Mine
end
section
open PySem PySem.W PyProof.Rows PySem.Calls
set_option Elab.async false
set_option maxRecDepth 100000
set_option maxHeartbeats 4000000
namespace Mine
@[irreducible] noncomputable def pick {α : Type} (ne : Nonempty α) (p : α → Prop) : α := @Classical.epsilon α ne p
theorem pickAll {α : Type} (ne : Nonempty α) {P : α → Prop} (h : P (pick ne fun a => ¬ P a)) (a : α) : P a := by
  refine Classical.byContradiction fun q => ?_
  have := @Classical.epsilon_spec α (fun a => ¬ P a) ⟨a, q⟩
  unfold pick at h
  exact this h
def w0 : World := ⟨fun _ _ => 0, { strHash := fun _ => 0, shareClass := fun _ => 0, mergeTok := fun t => t, idOf := fun _ => 0, idOfShared := fun _ _ => 0, followText := fun _ => false, idOfImm := fun _ => 0 }⟩
def SpecAt (w : World) (f : Addr) (vs : List Value) (D U : Nat) (h : Heap) (R : List (Addr × Obj) → Value → Prop) (dp un : Nat) (fr : Option (List Env)) (gd : Option (List Code)) (s : Shared) (Q E : Value → Shared → Prop) : Prop :=
  dp + D < recursionLimit → un + U < cLine → s.heap = h → (∀ v tl h' tk', Kp h h' → Fsh h h' tl → R tl v → Q v { s with heap := h', toks := tk' }) →
    wpAny (model MP w) (AA dp un fr gd) (call (.ref f) vs) Q E s
theorem spec_of {w : World} {f : Addr} {vs : List Value} {D U : Nat} {h : Heap} {R : List (Addr × Obj) → Value → Prop} (H : ∀ dp un fr gd s Q E, SpecAt w f vs D U h R dp un fr gd s Q E) : Spec w f vs D U h R := by
  rintro ⟨hd, dp, fr, gd, un⟩ s Q E hA hdp hun hh hQ
  cases hA
  refine H dp un fr gd s Q E hdp hun hh fun v tl h' tk' a b c => hQ v tl h' tk' a b c
noncomputable def GT (w : World) (h : Heap) : Program × List Str × (ExcName → Option Value) × (Str → Option Value) × (Str → Option Value) :=
  pick ⟨(Classical.ofNonempty, Classical.ofNonempty, Classical.ofNonempty, Classical.ofNonempty, Classical.ofNonempty)⟩ fun x => Top x.1 x.2.1 x.2.2.1 x.2.2.2.1 x.2.2.2.2 h
theorem St.top {w : World} {h : Heap} (x : St w h) : (hd.heap_39 w.params).In h ∧ Top (GT w h).1 (GT w h).2.1 (GT w h).2.2.1 (GT w h).2.2.2.1 (GT w h).2.2.2.2 h := by
  obtain ⟨X, p, loose, mean, mg, mb, T⟩ := x
  refine ⟨X, ?_⟩
  have := @Classical.epsilon_spec (Program × List Str × (ExcName → Option Value) × (Str → Option Value) × (Str → Option Value)) (fun x => Top x.1 x.2.1 x.2.2.1 x.2.2.2.1 x.2.2.2.2 h) ⟨(p, loose, mean, mg, mb), T⟩
  unfold GT pick
  exact this
theorem fn_inj {oc' oc : Value} {od' od : Option Addr} {osl' osl : Array (Option Value)} {name' name qual' qual : Str} {params' params : Arguments} {body' body : List Stmt} {scope' scope : Scope} {dV' dV kV' kV doc' doc pm' pm : Value} {an' an : Option Addr} {cdv' cdv ct' ct : Value}
    (e : some (⟨oc', od', .func (fnOf name' qual' params' body' scope' dV' kV' doc' pm' an' cdv' ct'), osl'⟩ : Obj) = some ⟨oc, od, .func (fnOf name qual params body scope dV kV doc pm an cdv ct), osl⟩) : body' = body ∧ qual' = qual ∧ scope' = scope ∧ cdv' = cdv := by
  have e1 : Data.func (fnOf name' qual' params' body' scope' dV' kV' doc' pm' an' cdv' ct') = .func (fnOf name qual params body scope dV kV doc pm an cdv ct) := congrArg Obj.data (Option.some.inj e)
  have e2 := Data.func.inj e1
  exact ⟨FuncBody.stmts.inj (congrArg FuncData.body e2), congrArg FuncData.qualname e2, congrArg FuncData.scope e2, congrArg FuncData.code e2⟩
def HBX (f : Addr) (w : World) (h : Heap) (L : Addr) (dp un : Nat) (fr : Option (List Env)) (gd : Option (List Code)) (s : Shared) (Q : Value → Shared → Prop) (binds : List (Str × Value)) (h₁ : Heap) (tk : Nat) (body : List Stmt) (qual : Str) (scope : Scope) (cdv : Value) : Prop :=
  Fr h L h₁ (fun x => binds.reverse.lookup x) → News h L h₁ [] →
      wpAny (model MP w) (AA (dp + 1) (un + 3) (fr.map (envOf qual scope L f cdv :: ·)) gd) (execs body (envOf qual scope L f cdv))
        (fun fl s' => Q (match fl with | .ret v => v | _ => .none) s') (fun _ _ => False) { s with heap := h₁, toks := tk }
def HB (K : Frag) (f : Addr) (w : World) (h : Heap) (L : Addr) (dp un : Nat) (fr : Option (List Env)) (gd : Option (List Code)) (s : Shared) (Q : Value → Shared → Prop) (binds : List (Str × Value)) (h₁ : Heap) (tk : Nat) : Prop :=
  ∀ (oc : Value) (od : Option Addr) (osl : Array (Option Value)) (name qual : Str) (params : Arguments) (body : List Stmt) (scope : Scope) (dV kV doc pm : Value) (an : Option Addr) (cdv ct : Value),
    K.lookup f = some ⟨oc, od, .func (fnOf name qual params body scope dV kV doc pm an cdv ct), osl⟩ → HBX f w h L dp un fr gd s Q binds h₁ tk body qual scope cdv
noncomputable def HT (K : Frag) (f : Addr) (w : World) (h : Heap) (L : Addr) (dp un : Nat) (fr : Option (List Env)) (gd : Option (List Code)) (s : Shared) (Q : Value → Shared → Prop) (binds : List (Str × Value)) : Heap × Nat :=
  pick ⟨(default, 0)⟩ fun x => ¬ HB K f w h L dp un fr gd s Q binds x.1 x.2
section
variable {w : World} {K : Frag} {D : Nat} {h : Heap} {p : Program} {loose : List Str} {mean : ExcName → Option Value} {mg mb : Str → Option Value}
  {name qual : Str} {params : Arguments} {body : List Stmt} {scope : Scope} {dV kV doc pm cdv ct oc : Value} {an od : Option Addr} {osl : Array (Option Value)} {f : Addr} {vals : List Value}
  {dp un : Nat} {fr : Option (List Env)} {gd : Option (List Code)} {s : Shared} {Q E : Value → Shared → Prop}
theorem enterE (hdp : dp + D < recursionLimit) (hh : s.heap = h) (L : Addr) (hL : L = h.objs.size) (X : K.In h) (T : Top p loose mean mg mb h) (binds : List (Str × Value))
    (ho : K.lookup f = some ⟨oc, od, .func (fnOf name qual params body scope dV kV doc pm an cdv ct), osl⟩) (hcd : codeIn K cdv qual = true)
    (hD : 0 < D)
    (hbind : bindArgs (fnOf name qual params body scope dV kV doc pm an cdv ct) ⟨vals, []⟩ = pure binds)
    (hcell : ∀ x ∈ scope.names, x.2 ≠ .cell) (hloc : ∀ x ∈ binds, scope.names.lookup x.1 = some .local)
    (hco : scope.isCoroutine = false) (hgen : scope.isGenerator = false) (hk : scope.kind = .function)
    (h₁ : Heap) (e₁ : h₁ = (HT K f w h L dp un fr gd s Q binds).1) (tk : Nat) (e₂ : tk = (HT K f w h L dp un fr gd s Q binds).2)
    (hb : HBX f w h L dp un fr gd s Q binds h₁ tk body qual scope cdv) :
    wpAny (model MP w) (AA dp un fr gd) (call (.ref f) vals) Q E s := by
  have key : ∀ x : Heap × Nat, HB K f w h L dp un fr gd s Q binds x.1 x.2 := by
    refine pickAll ⟨(default, 0)⟩ (P := fun x => HB K f w h L dp un fr gd s Q binds x.1 x.2) ?_
    intro oc' od' osl' name' qual' params' body' scope' dV' kV' doc' pm' an' cdv' ct' ho'
    obtain ⟨q1, q2, q3, q4⟩ := fn_inj (ho'.symm.trans ho)
    rw [q1, q2, q3, q4]
    rw [e₁, e₂] at hb
    exact hb
  subst hh hL
  refine wpAny_noRaise (wpAny_call ?_)
  refine codeAny_call_def (fd := fnOf name qual params body scope dV kV doc pm an cdv ct) (body := body) (binds := binds) (Nat.lt_of_le_of_lt (Nat.le_add_right _ _) hdp) (X _ _ ho) rfl T.nolimit (codeRec_of X hcd) rfl (.of_eq hbind) hcell hloc (fun h₁ hns hk₁ => ?_) hco hgen hk
  exact wpAny_mono (key (h₁, _) _ _ _ _ _ _ _ _ _ _ _ _ _ _ _ ho ⟨hns, hk₁, Nat.le_refl _⟩ News.nil) (fun fl s' q => q) fun _ _ x => x.elim
end
end Mine
end
section
open PySem PySem.W PyProof.Rows PySem.Calls
set_option Elab.async false
set_option maxRecDepth 100000
set_option maxHeartbeats 4000000
namespace Mine
theorem fmod_nat (x : Int) : ((x.fmod 256).toNat : Int) = x.fmod 256 := Int.toNat_of_nonneg (fmod_lo x (by decide))
theorem ItIn.of {a l : Addr} {f : Str} {t : Tok} {vs : List Value} {n1 n2 : Nat} {it : It} (hf : it.front = f) (hi : IntsAre vs it.codes) :
    ItIn [(a, W.listOf #[.str f t, .ref l] n1), (l, W.listOf (List.toArray vs) n2)] (.ref a) it := ⟨a, l, vs, t, n1, n2, rfl, hf ▸ .head _, .tail _ (.head _), hi⟩
theorem codes1 {x : Int} {t : Tok} : IntsAre [.int (x.fmod 256) t] [((x.fmod 256).toNat : Int)] := by
  rw [fmod_nat]; exact .cons _ _ .nil
theorem codes3 {x y z : Int} {t t' t'' : Tok} : IntsAre [.int (x.fmod 256) t, .int (y.fmod 256) t', .int (z.fmod 256) t''] [((x.fmod 256).toNat : Int), ((y.fmod 256).toNat : Int), ((z.fmod 256).toNat : Int)] := by
  rw [fmod_nat, fmod_nat, fmod_nat]; exact .cons _ _ (.cons _ _ (.cons _ _ .nil))
theorem star_item (x : Int) (h : x.fmod 8 < 2) : (itOf x).front = Txt.item (Str.ofString "*?") (x.fmod 8) ∧ (itOf x).codes = [] := by
  have h0 := fmod_lo x (n := 8) (by decide)
  unfold itOf
  rw [if_pos h]
  generalize x.fmod 8 = r at *
  obtain rfl | rfl : r = 0 ∨ r = 1 := by lia
  · exact ⟨by decide +kernel, rfl⟩
  · exact ⟨by decide +kernel, rfl⟩
namespace K_S_item
def P (w : World) (h : Heap) (x : Int) (t : Tok) (dp : Nat) (un : Nat) (fr : Option (List Env)) (gd : Option (List Code)) (s : Shared) (Q : Value → Shared → Prop) (E : Value → Shared → Prop) : Prop :=
  ∀ (hS : St w h), SpecAt w 97 [.int x t] 3 30 h (fun tl v => ItIn tl v (itOf x)) dp un fr gd s Q E
theorem ne : Nonempty ((World) × (Heap) × (Int) × (Tok) × (Nat) × (Nat) × (Option (List Env)) × (Option (List Code)) × (Shared) × (Value → Shared → Prop) × (Value → Shared → Prop)) := ⟨(w0, Classical.ofNonempty, Classical.ofNonempty, Classical.ofNonempty, Classical.ofNonempty, Classical.ofNonempty, Classical.ofNonempty, Classical.ofNonempty, {}, Classical.ofNonempty, Classical.ofNonempty)⟩
noncomputable def κ : (World) × (Heap) × (Int) × (Tok) × (Nat) × (Nat) × (Option (List Env)) × (Option (List Code)) × (Shared) × (Value → Shared → Prop) × (Value → Shared → Prop) := pick ne fun c => ¬ P (c.1) (c.2.1) (c.2.2.1) (c.2.2.2.1) (c.2.2.2.2.1) (c.2.2.2.2.2.1) (c.2.2.2.2.2.2.1) (c.2.2.2.2.2.2.2.1) (c.2.2.2.2.2.2.2.2.1) (c.2.2.2.2.2.2.2.2.2.1) (c.2.2.2.2.2.2.2.2.2.2)
noncomputable def w : World := κ.1
noncomputable def h : Heap := κ.2.1
noncomputable def x : Int := κ.2.2.1
noncomputable def t : Tok := κ.2.2.2.1
noncomputable def dp : Nat := κ.2.2.2.2.1
noncomputable def un : Nat := κ.2.2.2.2.2.1
noncomputable def fr : Option (List Env) := κ.2.2.2.2.2.2.1
noncomputable def gd : Option (List Code) := κ.2.2.2.2.2.2.2.1
noncomputable def s : Shared := κ.2.2.2.2.2.2.2.2.1
noncomputable def Q : Value → Shared → Prop := κ.2.2.2.2.2.2.2.2.2.1
noncomputable def E : Value → Shared → Prop := κ.2.2.2.2.2.2.2.2.2.2
noncomputable def L : Addr := Heap.objs h |>.size
noncomputable def h₁ : Heap := (HT (hd.heap_39 w.params) 97 w h L dp un fr gd s Q [(Str.ofString "x", .int x t)]).1
noncomputable def tk : Nat := (HT (hd.heap_39 w.params) 97 w h L dp un fr gd s Q [(Str.ofString "x", .int x t)]).2
theorem core : P w h x t dp un fr gd s Q E := by
  intro hS hdp hun hh hQ
  w_top off
  refine fillG ?_
  k_fill
  intro _ _
  obtain ⟨X, T⟩ := St.top hS
  refine' enterE (K := hd.heap_39 w.params) hdp hh L rfl X T [(Str.ofString "x", .int x t)] ?k3 ?k4 (by lia) ?k6 ?k7 ?k8 ?k9 ?k10 ?k11 h₁ rfl tk rfl ?_
  case k3 => k_is
  case k4 => k_is
  case k6 => exact rfl
  case k7 => decide
  case k8 => exact locs rfl
  case k9 => exact rfl
  case k10 => exact rfl
  case k11 => exact rfl
  intro F N
  have hd := hdp
  have hu := hun
  have hL : L = h.objs.size := rfl
  try dsimp only
  k_steps
  · have e := star_item x (by assumption)
    exact hQ _ _ _ _ (kp_of (by assumption)) (fsh_of (by assumption)) (ItIn.of (vs := []) e.1 (e.2 ▸ .nil))
  · have e : itOf x = .sign ((x.fdiv 8).fmod 256).toNat := by simp only [itOf]; rw [if_neg (by assumption), if_pos (by assumption)]
    exact hQ _ _ _ _ (kp_of (by assumption)) (fsh_of (by assumption)) (ItIn.of (vs := [_]) (by rw [e]; rfl) (by rw [e]; exact codes1))
  all_goals
    have e : itOf x = .br (!decide (x.fmod 8 < 7)) ((x.fdiv 8).fmod 256).toNat ((x.fdiv 2048).fmod 256).toNat ((x.fdiv 524288).fmod 256).toNat := by
      simp only [itOf]; rw [if_neg (by assumption), if_neg (by assumption)]
    first | rw [decide_eq_true (by assumption)] at e | rw [decide_eq_false (by assumption)] at e
    exact hQ _ _ _ _ (kp_of (by assumption)) (fsh_of (by assumption)) (ItIn.of (vs := [_, _, _]) (by rw [e]; rfl) (by rw [e]; exact codes3))
end K_S_item
theorem S_item (w : World) (h : Heap) (x : Int) (t : Tok) (hS : St w h) : Spec w 97 [.int x t] 3 30 h (fun tl v => ItIn tl v (itOf x)) :=
  spec_of fun dp un fr gd s Q E => pickAll K_S_item.ne (P := fun c => K_S_item.P (c.1) (c.2.1) (c.2.2.1) (c.2.2.2.1) (c.2.2.2.2.1) (c.2.2.2.2.2.1) (c.2.2.2.2.2.2.1) (c.2.2.2.2.2.2.2.1) (c.2.2.2.2.2.2.2.2.1) (c.2.2.2.2.2.2.2.2.2.1) (c.2.2.2.2.2.2.2.2.2.2)) K_S_item.core (w, h, x, t, dp, un, fr, gd, s, Q, E) hS
end Mine
end
section
open PySem PySem.W PyProof.Rows PySem.Calls
set_option Elab.async false
set_option maxRecDepth 100000
set_option maxHeartbeats 4000000
namespace Mine
section
variable {prog : Program} {w : World} {A : Around} {E : Value → Shared → Prop} {s : Shared} {Q : Value → Shared → Prop}
theorem pow_lit {a n r : Int} {t u : Tok} (h0 : 0 ≤ n) (h1 : n ≤ 1000000) (h2 : a.natAbs < 2 ^ 64) (hr : a ^ n.toNat = r) (h : Q (.int r s.toks) { s with toks := s.toks + 1 }) :
    wpAny (model prog w) A (binaryOp .Pow (.int a t) (.int n u)) Q E s := pow_int_small h0 h1 h2 (hr ▸ h)
theorem chr_val {i : Int} {n : Nat} {t : Tok} (e : i = (n : Int)) (hn : n ≤ 1114111) (h : Q (.str ⟨#[n]⟩ s.toks) { s with toks := s.toks + 1 }) :
    wpAny (model prog w) A (call (.builtin "chr") [.int i t]) Q E s := by
  subst e
  exact chr_of_range (by lia) (by lia) (by simpa using h)
end
theorem decK {N k j : Nat} (h : k ≤ N) (hj : 0 < j) : N + 1 - (k + j) < N + 1 - k := Nat.sub_lt_sub_left (Nat.lt_succ_of_le h) (Nat.lt_add_of_pos_right hj)
theorem le31 (c : Nat) : c % 32 ≤ 1114111 := Nat.le_trans (Nat.le_of_lt (Nat.mod_lt _ (by decide))) (by decide)
theorem le128 (c : Nat) : 128 + c % 128 ≤ 1114111 := Nat.le_trans (Nat.add_le_add_left (Nat.le_of_lt (Nat.mod_lt _ (by decide))) 128) (by decide)
theorem bitAnd31 (c : Nat) : Builtin.bitAnd (c : Int) 31 = ((c % 32 : Nat) : Int) := by
  have := kbt_mask (c : Int) 5
  rw [show (2 : Int) ^ 5 - 1 = 31 from by decide, show (2 : Int) ^ 5 = 32 from by decide] at this
  rw [this]; lia
theorem bitOr128 : ∀ c : Nat, c < 256 → Builtin.bitOr (c : Int) 128 = ((128 + c % 128 : Nat) : Int) := by decide +kernel
section
variable {w : World} {K : Frag} {D U : Nat} {h : Heap} {R : List (Addr × Obj) → Value → Prop} {p : Program} {loose : List Str} {mean : ExcName → Option Value} {mg mb : Str → Option Value}
  {name qual : Str} {params : Arguments} {body : List Stmt} {scope : Scope} {dV kV doc pm cdv ct oc : Value} {an od : Option Addr} {osl : Array (Option Value)} {f : Addr} {vals : List Value}

end
/-- a sign's code as it is sent -/
def sent (size c : Nat) : Nat := if size = 32 then c % 32 else 128 + c % 128
end Mine
end
section
open PySem PySem.W PyProof.Rows PySem.Calls
set_option Elab.async false
set_option maxRecDepth 100000
set_option maxHeartbeats 4000000
namespace Mine
/-- a call that may fill the code table P: all else of the heap stays -/
def SpecT (w : World) (f : Addr) (vs : List Value) (D U : Nat) (h₀ : Heap) (P : Addr) (V : Heap → Obj → Prop) (R : List (Addr × Obj) → Value → Prop) : Prop :=
  ∀ (A : Around) (s : Shared) (Q E : Value → Shared → Prop) (o : Obj), A.handled = none → A.depth + D < recursionLimit → A.units + U < cLine → Kp h₀ s.heap → h₀.get? P = none → s.heap.get? P = some o → V s.heap o →
    (∀ v tl h' tk' o', (∀ b x, b ≠ P → s.heap.get? b = some x → h'.get? b = some x) → h'.get? P = some o' → V h' o' → (∀ p ∈ tl, h'.get? p.1 = some p.2 ∧ p.1 ≠ P ∧ s.heap.get? p.1 = none) → R tl v → Q v { s with heap := h', toks := tk' }) →
    wpAny (model MP w) A (call (.ref f) vs) Q E s
section
variable {w : World} {K : Frag} {D U : Nat} {h₀ : Heap} {P : Addr} {V : Heap → Obj → Prop} {R : List (Addr × Obj) → Value → Prop} {p : Program} {loose : List Str} {mean : ExcName → Option Value} {mg mb : Str → Option Value}
  {name qual : Str} {params : Arguments} {body : List Stmt} {scope : Scope} {dV kV doc pm cdv ct oc : Value} {an od : Option Addr} {osl : Array (Option Value)} {f : Addr} {vals : List Value}
end
end Mine
end
section
open PySem PySem.W PyProof.Rows PySem.Calls
open PyProof.Rows.LCg (NsObj ns_obj lst lst_snoc)
set_option Elab.async false
set_option maxRecDepth 100000
set_option maxHeartbeats 4000000
namespace Mine
/-- where a comprehension stands: its block's names at C, its list at D -/
structure CS (h₀ : Heap) (L : Addr) (m : Str → Option Value) (C : Addr) (oC : Obj) (D : Addr) (ys : List Value) (news : List (Addr × Obj)) (h : Heap) : Prop where
  F : Fr h₀ L h m
  N : News h₀ L h ((C, oC) :: (D, lst ys) :: news)
  off : ∀ p ∈ news, p.1 ≠ C ∧ p.1 ≠ D
  cd : C ≠ D
  ns : ∃ mC, NsObj oC mC
abbrev FF : Value → Shared → Prop := fun _ _ => False
def CEnd (h₀ : Heap) (L : Addr) (m : Str → Option Value) (C D : Addr) (ys : List Value) (s₂ : Shared) (P : List (Addr × Obj) → Prop) (s' : Shared) : Prop :=
  ∃ h' tk' oC' news', s' = { s₂ with heap := h', toks := tk' } ∧ CS h₀ L m C oC' D ys news' h' ∧ P news'

section
variable {prog : Program} {w : World} {A : Around} {E : Value → Shared → Prop} {s : Shared} {env : Env} {h₀ : Heap} {L : Addr} {m : Str → Option Value}

def CTurn (prog : Program) (w : World) (A : Around) (h₀ : Heap) (L : Addr) (m : Str → Option Value) (env : Env) (scope : Scope) (cl : List (Str × Addr)) (elt target c : Expr) (it : Value) (s₂ : Shared)
    (J : Nat → List Value → List (Addr × Obj) → Prop) (Fin : List Value → List (Addr × Obj) → Prop) : Prop :=
  ∀ n ys news C oC D h tk, J n ys news → CS h₀ L m C oC D ys news h →
    wpAny (model prog w) A (pyNext it) (fun r s₁ => match r with
      | none => CEnd h₀ L m C D ys s₂ (Fin ys) s₁
      | some v => wpAny (model prog w) A (letOwnedTupleGo target it v) (fun _ s₀ => wpAny (model prog w) A (assign target (compEnvC scope cl C env) v) (fun _ s₃ =>
          wpAny (model prog w) A (isTrue c (compEnvC scope cl C env) (eval c (compEnvC scope cl C env))) (fun ok s₄ => if ok = true then
            wpAny (model prog w) A (eval elt (compEnvC scope cl C env)) (fun y s₅ => CEnd h₀ L m C D ys s₂ (fun news' => ∃ n', n' < n ∧ J n' (ys ++ [y]) news') s₅) FF s₄
            else CEnd h₀ L m C D ys s₂ (fun news' => ∃ n', n' < n ∧ J n' ys news') s₄) FF s₃) FF s₀) FF s₁) FF { s₂ with heap := h, toks := tk }

structure CPkg (prog : Program) (w : World) (A : Around) (h₀ : Heap) (L : Addr) (m : Str → Option Value) (env : Env) (scope : Scope) (cl : List (Str × Addr)) (elt target c : Expr) (Fin : List Value → List (Addr × Obj) → Prop) (it : Value) (s₂ : Shared) (news : List (Addr × Obj)) (n : Nat)
    (J : Nat → List Value → List (Addr × Obj) → Prop) : Prop where
  F : Fr h₀ L s₂.heap m
  N : News h₀ L s₂.heap news
  start : J n [] news
  len : ∀ n ys news, J n ys news → ys.length ≤ sizeLine
  self : ∀ h tk, News h₀ L h news → wpAny (model prog w) A (pyIter it) (fun it' s' => it' = it ∧ s' = { s₂ with heap := h, toks := tk }) FF { s₂ with heap := h, toks := tk }
  turn : CTurn prog w A h₀ L m env scope cl elt target c it s₂ J Fin

def K_comp_core.P (elt : Expr) (target : Expr) (iter : Expr) (c : Expr) (scope : Scope) (cl : List (Str × Addr)) (pos : Pos) (Fin : List Value → List (Addr × Obj) → Prop) (it : Value) (s₂ : Shared) (news : List (Addr × Obj)) (n : Nat) (J : Nat → List Value → List (Addr × Obj) → Prop) (RR : Value → Addr → Result → Shared → Prop) : Prop :=
  ∀ (hcell : ∀ y ∈ scope.names, y.2 ≠ .cell) (hkind : scope.kind = .function) (P : CPkg prog w A h₀ L m env scope cl elt target c Fin it s₂ news n J) (hRR : ∀ C oC D ys news' h tk, CS h₀ L m C oC D ys news' h → Fin ys news' → RR (.ref D) C (.ok .next) { s₂ with heap := h, toks := tk }), wpAny (model prog w) A (newList []) (fun acc s₃ => wpAny (model prog w) A (newFunctionEnv scope env.globals cl [] env.qual none .none (some env)) (fun cenv s₄ =>
      codeAny (model prog w) A (.compStart (.ListComp elt [⟨target, iter, [c], 0⟩] scope pos) 0 it acc { cenv with scope := relabel scope env }) (RR acc cenv.locals) s₄) E s₃) E s₂
end
namespace K_comp_core
theorem ne : Nonempty ((Program) × (World) × (Around) × (Value → Shared → Prop) × (Env) × (Heap) × (Addr) × (Str → Option Value) × (Expr) × (Expr) × (Expr) × (Expr) × (Scope) × (List (Str × Addr)) × (Pos) × (List Value → List (Addr × Obj) → Prop) × (Value) × (Shared) × (List (Addr × Obj)) × (Nat) × (Nat → List Value → List (Addr × Obj) → Prop) × (Value → Addr → Result → Shared → Prop)) := ⟨(Classical.ofNonempty, w0, ⟨none, 0, none, none, 0⟩, Classical.ofNonempty, Classical.ofNonempty, Classical.ofNonempty, Classical.ofNonempty, Classical.ofNonempty, Classical.ofNonempty, Classical.ofNonempty, Classical.ofNonempty, Classical.ofNonempty, Classical.ofNonempty, Classical.ofNonempty, Classical.ofNonempty, Classical.ofNonempty, Classical.ofNonempty, {}, Classical.ofNonempty, Classical.ofNonempty, Classical.ofNonempty, Classical.ofNonempty)⟩
noncomputable def κ : (Program) × (World) × (Around) × (Value → Shared → Prop) × (Env) × (Heap) × (Addr) × (Str → Option Value) × (Expr) × (Expr) × (Expr) × (Expr) × (Scope) × (List (Str × Addr)) × (Pos) × (List Value → List (Addr × Obj) → Prop) × (Value) × (Shared) × (List (Addr × Obj)) × (Nat) × (Nat → List Value → List (Addr × Obj) → Prop) × (Value → Addr → Result → Shared → Prop) := pick ne fun c => ¬ @P (c.1) (c.2.1) (c.2.2.1) (c.2.2.2.1) (c.2.2.2.2.1) (c.2.2.2.2.2.1) (c.2.2.2.2.2.2.1) (c.2.2.2.2.2.2.2.1) (c.2.2.2.2.2.2.2.2.1) (c.2.2.2.2.2.2.2.2.2.1) (c.2.2.2.2.2.2.2.2.2.2.1) (c.2.2.2.2.2.2.2.2.2.2.2.1) (c.2.2.2.2.2.2.2.2.2.2.2.2.1) (c.2.2.2.2.2.2.2.2.2.2.2.2.2.1) (c.2.2.2.2.2.2.2.2.2.2.2.2.2.2.1) (c.2.2.2.2.2.2.2.2.2.2.2.2.2.2.2.1) (c.2.2.2.2.2.2.2.2.2.2.2.2.2.2.2.2.1) (c.2.2.2.2.2.2.2.2.2.2.2.2.2.2.2.2.2.1) (c.2.2.2.2.2.2.2.2.2.2.2.2.2.2.2.2.2.2.1) (c.2.2.2.2.2.2.2.2.2.2.2.2.2.2.2.2.2.2.2.1) (c.2.2.2.2.2.2.2.2.2.2.2.2.2.2.2.2.2.2.2.2.1) (c.2.2.2.2.2.2.2.2.2.2.2.2.2.2.2.2.2.2.2.2.2)
noncomputable def prog : Program := κ.1
noncomputable def w : World := κ.2.1
noncomputable def A : Around := κ.2.2.1
noncomputable def E : Value → Shared → Prop := κ.2.2.2.1
noncomputable def env : Env := κ.2.2.2.2.1
noncomputable def h₀ : Heap := κ.2.2.2.2.2.1
noncomputable def L : Addr := κ.2.2.2.2.2.2.1
noncomputable def m : Str → Option Value := κ.2.2.2.2.2.2.2.1
noncomputable def elt : Expr := κ.2.2.2.2.2.2.2.2.1
noncomputable def target : Expr := κ.2.2.2.2.2.2.2.2.2.1
noncomputable def iter : Expr := κ.2.2.2.2.2.2.2.2.2.2.1
noncomputable def c : Expr := κ.2.2.2.2.2.2.2.2.2.2.2.1
noncomputable def scope : Scope := κ.2.2.2.2.2.2.2.2.2.2.2.2.1
noncomputable def cl : List (Str × Addr) := κ.2.2.2.2.2.2.2.2.2.2.2.2.2.1
noncomputable def pos : Pos := κ.2.2.2.2.2.2.2.2.2.2.2.2.2.2.1
noncomputable def Fin : List Value → List (Addr × Obj) → Prop := κ.2.2.2.2.2.2.2.2.2.2.2.2.2.2.2.1
noncomputable def it : Value := κ.2.2.2.2.2.2.2.2.2.2.2.2.2.2.2.2.1
noncomputable def s₂ : Shared := κ.2.2.2.2.2.2.2.2.2.2.2.2.2.2.2.2.2.1
noncomputable def news : List (Addr × Obj) := κ.2.2.2.2.2.2.2.2.2.2.2.2.2.2.2.2.2.2.1
noncomputable def n : Nat := κ.2.2.2.2.2.2.2.2.2.2.2.2.2.2.2.2.2.2.2.1
noncomputable def J : Nat → List Value → List (Addr × Obj) → Prop := κ.2.2.2.2.2.2.2.2.2.2.2.2.2.2.2.2.2.2.2.2.1
noncomputable def RR : Value → Addr → Result → Shared → Prop := κ.2.2.2.2.2.2.2.2.2.2.2.2.2.2.2.2.2.2.2.2.2
theorem core : @P prog w A E env h₀ L m elt target iter c scope cl pos Fin it s₂ news n J RR := by
  intro hcell hkind P hRR
  obtain ⟨F, N, hJ, hlen, hself, turn⟩ := P
  refine wpAny_newObj_type (wpAny_newFunctionEnv hcell (by intro y hy; simp at hy) (fun h₁ hns₁ hsb₁ => ?_) hkind)
  dsimp only at hns₁ hsb₁ ⊢
  generalize hH2 : s₂.heap.push { cls := .type "list", dict := none, data := .seq ([] : List Value).toArray } = H2 at hns₁ hsb₁ ⊢
  have hC : H2.objs.size = s₂.heap.objs.size + 1 := by rw [← hH2, Heap.size_push]
  have hCD : H2.objs.size ≠ s₂.heap.objs.size := Nat.ne_of_gt (by rw [hC]; exact Nat.lt_succ_self _)
  have lowD : ∀ b o, s₂.heap.get? b = some o → b ≠ s₂.heap.objs.size ∧ b ≠ H2.objs.size := fun b o e => by
    have := Heap.lt_size e
    exact ⟨Nat.ne_of_lt this, Nat.ne_of_lt (by rw [hC]; exact Nat.lt_succ_of_lt this)⟩
  have k1 : Kp s₂.heap h₁ := fun b o e => hsb₁.extBut b o (lowD b o e).2 (Heap.get?_push_of_some _ (hH2 ▸ Heap.get?_push_of_some _ e))
  have fresh : ∀ a, s₂.heap.objs.size ≤ a → h₀.get? a = none := fun a ha => by
    cases e : h₀.get? a with
    | none => rfl
    | some o => exact absurd (Heap.lt_size (F.keep a o e)) (Nat.not_lt.mpr ha)
  have hLlt : L < s₂.heap.objs.size := F.ns.lt
  have hD₁ : h₁.get? s₂.heap.objs.size = some (lst []) := hsb₁.extBut _ _ (Ne.symm hCD) (Heap.get?_push_of_some _ (hH2 ▸ Heap.get?_push_size _ rfl))
  obtain ⟨oC, heC, hoC⟩ := ns_obj hns₁
  have CS₁ : CS h₀ L m H2.objs.size oC s₂.heap.objs.size [] news h₁ :=
    ⟨F.keeps k1, fun p hp => by
      rcases List.mem_cons.mp hp with rfl | hp
      · exact ⟨heC, Nat.ne_of_gt (by show L < H2.objs.size; rw [hC]; exact Nat.lt_succ_of_lt hLlt), fresh _ (by rw [hC]; exact Nat.le_succ _)⟩
      · rcases List.mem_cons.mp hp with rfl | hp
        · exact ⟨hD₁, Nat.ne_of_gt hLlt, fresh _ (Nat.le_refl _)⟩
        · exact ⟨k1 _ _ (N p hp).1, (N p hp).2⟩,
     fun p hp => ⟨(lowD _ _ (N p hp).1).2, (lowD _ _ (N p hp).1).1⟩, hCD, ⟨_, hoC⟩⟩
  have loop : ∀ tk₁, codeAny (model prog w) A (.compLoop (.ListComp elt [⟨target, iter, [c], 0⟩] scope pos) 0 it (.ref s₂.heap.objs.size) (compEnvC scope cl H2.objs.size env))
      (RR (.ref s₂.heap.objs.size) H2.objs.size) { s₂ with heap := h₁, toks := tk₁ } := fun tk₁ => by
    refine kct_loop (fun k s' => ∃ h' tk' oC' ys news', s' = { s₂ with heap := h', toks := tk' } ∧ CS h₀ L m H2.objs.size oC' s₂.heap.objs.size ys news' h' ∧ J k ys news') ?_ n ⟨h₁, tk₁, oC, [], news, rfl, CS₁, hJ⟩
    intro k s' hq1
    (try k_fold)
    obtain ⟨h', tk', oC', ys, news', rfl, cs, hJ'⟩ := hq1
    refine wpAny_noRaise (wpAny_mono (turn k ys news' _ oC' _ h' tk' hJ' cs) (fun r s₃ h₃ => ?_) fun _ _ e => e.elim)
    cases r with
    | none =>
      obtain ⟨h4, tk4, oC4, news4, rfl, cs4, hF⟩ := h₃
      exact hRR _ _ _ _ _ _ _ cs4 hF
    | some v =>
      refine wpAny_noRaise (wpAny_mono h₃ (fun _ s4 h4 => ?_) fun _ _ e => e.elim)
      refine wpAny_noRaise (wpAny_mono h4 (fun _ s5 h5 => ?_) fun _ _ e => e.elim)
      refine wpAny_noRaise (wpAny_mono h5 (fun ok s6 h6 => ?_) fun _ _ e => e.elim)
      cases ok with
      | false =>
        simp only [Bool.false_eq_true, if_false] at h6 ⊢
        obtain ⟨h7, tk7, oC7, news7, rfl, cs7, n', hn', hJ7⟩ := h6
        exact ⟨n', hn', h7, tk7, oC7, ys, news7, rfl, cs7, hJ7⟩
      | true =>
        simp only [if_true] at h6 ⊢
        refine wpAny_noRaise (wpAny_mono h6 (fun y s7 h7 => ?_) fun _ _ e => e.elim)
        obtain ⟨h7, tk7, oC7, news7, rfl, cs7, n', hn', hJ7⟩ := h7
        have zD := cs7.N (s₂.heap.objs.size, lst ys) (List.mem_cons_of_mem _ List.mem_cons_self)
        have zC := cs7.N _ List.mem_cons_self
        refine append_at (hsz := by show ys.toArray.size ≤ sizeLine; rw [List.size_toArray]; exact hlen _ _ _ hJ') zD.1 fun h8 hs8 hD8 => ?_
        refine ⟨n', hn', h8, tk7, oC7, ys ++ [y], news7, rfl, ⟨cs7.F.change hs8 zD.2.1 zD.2.2, fun p hp => ?_, cs7.off, cs7.cd, cs7.ns⟩, hJ7⟩
        rcases List.mem_cons.mp hp with rfl | hp
        · exact ⟨(hs8.2 _ cs7.cd).trans zC.1, zC.2⟩
        · rcases List.mem_cons.mp hp with rfl | hp
          · exact ⟨hD8.trans (congrArg some (lst_snoc ys y)), zD.2⟩
          · have z := cs7.N p (List.mem_cons_of_mem _ (List.mem_cons_of_mem _ hp))
            exact ⟨(hs8.2 _ (cs7.off p hp).2).trans z.1, z.2⟩
  have N₁ : News h₀ L h₁ news := fun p hp => CS₁.N p (List.mem_cons_of_mem _ (List.mem_cons_of_mem _ hp))
  refine codeAny_compStart_list (loop _) (wpAny_noRaise (wpAny_mono (hself h₁ _ N₁) (fun it' s' q => ?_) fun _ _ e => e.elim))
  obtain ⟨rfl, rfl⟩ := q
  exact loop _
end K_comp_core
section
variable {prog : Program} {w : World} {A : Around} {E : Value → Shared → Prop} {s : Shared} {env : Env} {h₀ : Heap} {L : Addr} {m : Str → Option Value}
theorem comp_core {elt target iter c : Expr} {scope : Scope} {cl : List (Str × Addr)} {pos : Pos} {Fin : List Value → List (Addr × Obj) → Prop} {it : Value} {s₂ : Shared} {news : List (Addr × Obj)} {n : Nat} {J : Nat → List Value → List (Addr × Obj) → Prop} {RR : Value → Addr → Result → Shared → Prop}
    (hcell : ∀ y ∈ scope.names, y.2 ≠ .cell) (hkind : scope.kind = .function)
    (P : CPkg prog w A h₀ L m env scope cl elt target c Fin it s₂ news n J)
    (hRR : ∀ C oC D ys news' h tk, CS h₀ L m C oC D ys news' h → Fin ys news' → RR (.ref D) C (.ok .next) { s₂ with heap := h, toks := tk }) :
    wpAny (model prog w) A (newList []) (fun acc s₃ => wpAny (model prog w) A (newFunctionEnv scope env.globals cl [] env.qual none .none (some env)) (fun cenv s₄ =>
      codeAny (model prog w) A (.compStart (.ListComp elt [⟨target, iter, [c], 0⟩] scope pos) 0 it acc { cenv with scope := relabel scope env }) (RR acc cenv.locals) s₄) E s₃) E s₂ :=
  pickAll K_comp_core.ne (P := fun c => @K_comp_core.P (c.1) (c.2.1) (c.2.2.1) (c.2.2.2.1) (c.2.2.2.2.1) (c.2.2.2.2.2.1) (c.2.2.2.2.2.2.1) (c.2.2.2.2.2.2.2.1) (c.2.2.2.2.2.2.2.2.1) (c.2.2.2.2.2.2.2.2.2.1) (c.2.2.2.2.2.2.2.2.2.2.1) (c.2.2.2.2.2.2.2.2.2.2.2.1) (c.2.2.2.2.2.2.2.2.2.2.2.2.1) (c.2.2.2.2.2.2.2.2.2.2.2.2.2.1) (c.2.2.2.2.2.2.2.2.2.2.2.2.2.2.1) (c.2.2.2.2.2.2.2.2.2.2.2.2.2.2.2.1) (c.2.2.2.2.2.2.2.2.2.2.2.2.2.2.2.2.1) (c.2.2.2.2.2.2.2.2.2.2.2.2.2.2.2.2.2.1) (c.2.2.2.2.2.2.2.2.2.2.2.2.2.2.2.2.2.2.1) (c.2.2.2.2.2.2.2.2.2.2.2.2.2.2.2.2.2.2.2.1) (c.2.2.2.2.2.2.2.2.2.2.2.2.2.2.2.2.2.2.2.2.1) (c.2.2.2.2.2.2.2.2.2.2.2.2.2.2.2.2.2.2.2.2.2)) K_comp_core.core (prog, w, A, E, env, h₀, L, m, elt, target, iter, c, scope, cl, pos, Fin, it, s₂, news, n, J, RR) hcell hkind P hRR
theorem CS.letGo {h h' : Heap} {C D : Addr} {oC : Obj} {ys : List Value} {news : List (Addr × Obj)} (cs : CS h₀ L m C oC D ys news h) (hs : Heap.SameBut C h h') : Fr h₀ L h' m ∧ News h₀ L h' ((D, lst ys) :: news) := by
  have zC := cs.N _ List.mem_cons_self
  refine ⟨cs.F.change hs zC.2.1 zC.2.2, fun p hp => ?_⟩
  have z := cs.N p (List.mem_cons_of_mem _ hp)
  refine ⟨(hs.2 _ ?_).trans z.1, z.2⟩
  rcases List.mem_cons.mp hp with rfl | hp
  · exact Ne.symm cs.cd
  · exact (cs.off p hp).1

theorem my_comp {elt target iter c : Expr} {scope : Scope} {cl : List (Str × Addr)} {pos : Pos} {Q : Value → Shared → Prop}
    (hclos : closureFor scope env = pure cl) (hcell : ∀ y ∈ scope.names, y.2 ≠ .cell) (hkind : scope.kind = .function)
    (hnames : ∀ y ∈ scope.names, y.2 = .local → scope.names.lookup y.1 = some .local) (hs : ∀ x, foldedSetIterable iter env x = pure x)
    (h : wpAny (model prog w) A (eval iter env) (fun xv s₁ => wpAny (model prog w) A (pyIter xv) (fun it s₂ => ∃ Fin news n J, CPkg prog w A h₀ L m env scope cl elt target c Fin it s₂ news n J ∧
      (∀ D ys news h tk, Fin ys news → Fr h₀ L h m → News h₀ L h ((D, lst ys) :: news) → (∀ p ∈ news, p.1 ≠ D) → Q (.ref D) { s₂ with heap := h, toks := tk })) E s₁) E s) :
    wpAny (model prog w) A (eval (.ListComp elt [⟨target, iter, [c], 0⟩] scope pos) env) Q E s := by
  rw [eval_ListComp]
  refine wpAny_comprehension_free (use := none) rfl hs hclos hkind hnames (wpAny_mono h (fun xv s₁ h₁ => wpAny_mono h₁ (fun it s₂ h₂ => ?_) fun _ _ e => e) fun _ _ e => e)
  obtain ⟨Fin, news, n, J, P, fin⟩ := h₂
  refine comp_core (RR := fun acc C => compPost (model prog w) A E none Q acc C) hcell hkind P fun C oC D ys news' h tk cs hF => ?_
  obtain ⟨mC, hm⟩ := cs.ns
  refine ⟨mC, hm.ns (cs.N _ List.mem_cons_self).1, fun h5 hs5 => ?_⟩
  obtain ⟨F5, N5⟩ := cs.letGo hs5
  exact fin D ys news' h5 tk hF F5 N5 fun p hp => (cs.off p hp).2

theorem my_comp_assign {elt target iter c : Expr} {y : Str} {py spos : Pos} {scope : Scope} {cl : List (Str × Addr)} {pos : Pos} {Q : Flow → Shared → Prop} (hLe : env.locals = L)
    (hsw : swapsWith (.ListComp elt [⟨target, iter, [c], 0⟩] scope pos) (some (.Name y py)) spos.line env = pure true)
    (hclos : closureFor scope env = pure cl) (hcell : ∀ y ∈ scope.names, y.2 ≠ .cell) (hkind : scope.kind = .function)
    (hnames : ∀ y ∈ scope.names, y.2 = .local → scope.names.lookup y.1 = some .local) (hs : ∀ x, foldedSetIterable iter env x = pure x)
    (hy : env.kindOf y = some .local) (hp : (env.scope.kind == .class || (env.scope.kind == .module && env.locals != env.globals)) = false)
    (h : wpAny (model prog w) A (eval iter env) (fun xv s₁ => wpAny (model prog w) A (pyIter xv) (fun it s₂ => ∃ Fin news n J, CPkg prog w A h₀ L m env scope cl elt target c Fin it s₂ news n J ∧
      (∀ D ys news h tk, Fin ys news → Fr h₀ L h (fun z => if z = y then some (.ref D) else m z) → News h₀ L h ((D, lst ys) :: news) → (∀ p ∈ news, p.1 ≠ D) → Q .next { s₂ with heap := h, toks := tk })) E s₁) E s) :
    wpAny (model prog w) A (exec (.Assign [.Name y py] (.ListComp elt [⟨target, iter, [c], 0⟩] scope pos) spos) env) Q E s := by
  subst hLe
  rw [exec_Assign_Name_used _ _ _ _ hsw]
  refine wpAny_bind (wpAny_standAt (wpAny_bind ?_))
  show wpAny _ A (do let _ ← comprehension (.ListComp elt [⟨target, iter, [c], 0⟩] scope pos) scope env _ (newList []) false (eval iter env) (some (assign (.Name y py) env))) _ _ s
  refine wpAny_bind (wpAny_mono (wpAny_comprehension_free (use := some (assign (.Name y py) env)) (Q := fun _ s' => Q .next s') rfl hs hclos hkind hnames
    (wpAny_mono h (fun xv s₁ h₁ => wpAny_mono h₁ (fun it s₂ h₂ => ?_) fun _ _ e => e) fun _ _ e => e)) (fun _ s' hq => wpAny_pure (wpAny_pure hq)) fun _ _ e => e)
  obtain ⟨Fin, news, n, J, P, fin⟩ := h₂
  refine comp_core (RR := fun acc C => compPost (model prog w) A E (some (assign (.Name y py) env)) (fun _ s' => Q .next s') acc C) hcell hkind P fun C oC D ys news' h tk cs hF => ?_
  obtain ⟨mC, hm⟩ := cs.ns
  have zC := cs.N _ List.mem_cons_self
  show wpAny _ A (assign (.Name y py) env (.ref D)) _ _ _
  refine wpAny_assign_Name (wpAny_storeName_local hy cs.F.ns (fun h₂ hn₂ hs₂ => ?_) hp)
  have hL₀ : h₀.get? env.locals = none := Heap.get?_none_of_le cs.F.above
  have cs₂ : CS h₀ env.locals (fun z => if z = y then some (.ref D) else m z) C oC D ys news' h₂ :=
    ⟨⟨hn₂, fun b o e => hs₂.extBut b o (fun q => by rw [q, hL₀] at e; cases e) (cs.F.keep b o e), cs.F.above⟩, fun p hp => ⟨hs₂.extBut _ _ (cs.N p hp).2.1 (cs.N p hp).1, (cs.N p hp).2⟩, cs.off, cs.cd, cs.ns⟩
  refine ⟨mC, hm.ns (cs₂.N _ List.mem_cons_self).1, fun h5 hs5 => ?_⟩
  obtain ⟨F5, N5⟩ := cs₂.letGo hs5
  exact fin D ys news' h5 _ hF F5 N5 fun p hp => (cs.off p hp).2
end
end Mine
end
section
open PySem PySem.W PyProof.Rows PySem.Calls
open PyProof.Rows.LCg (NsObj ns_obj lst lst_snoc)
set_option Elab.async false
set_option maxRecDepth 100000
set_option maxHeartbeats 4000000
namespace Mine
/-- the walk stops here -/
def Stop (P : Prop) : Prop := P
theorem Stop.mk {P : Prop} (h : Stop P) : P := h
theorem Stop.out {P : Prop} (h : P) : Stop P := h

section
variable {prog : Program} {w : World} {A : Around} {E : Value → Shared → Prop} {s : Shared} {env : Env} {h₀ : Heap} {L C D : Addr} {m : Str → Option Value} {oC : Obj} {ys : List Value} {news : List (Addr × Obj)} {scope : Scope} {cl : List (Str × Addr)}

theorem CS.setC {h h' : Heap} {mC : Str → Option Value} (cs : CS h₀ L m C oC D ys news h) (hs : Heap.SameBut C h h') (hn : h'.Ns C mC) : ∃ oC', CS h₀ L m C oC' D ys news h' ∧ NsObj oC' mC := by
  have zC := cs.N _ List.mem_cons_self
  obtain ⟨oC', e, ho⟩ := ns_obj hn
  refine ⟨oC', ⟨cs.F.change hs zC.2.1 zC.2.2, fun p hp => ?_, cs.off, cs.cd, ⟨_, ho⟩⟩, ho⟩
  rcases List.mem_cons.mp hp with rfl | hp
  · exact ⟨e, zC.2⟩
  · have z := cs.N p (List.mem_cons_of_mem _ hp)
    refine ⟨(hs.2 _ ?_).trans z.1, z.2⟩
    rcases List.mem_cons.mp hp with rfl | hp
    · exact Ne.symm cs.cd
    · exact (cs.off p hp).1
theorem CS.grow {h h' : Heap} (cs : CS h₀ L m C oC D ys news h) (k : Kp h h') : CS h₀ L m C oC D ys news h' :=
  ⟨fr_after cs.F k, fun p hp => ⟨k _ _ (cs.N p hp).1, (cs.N p hp).2⟩, cs.off, cs.cd, cs.ns⟩
theorem CS.nsC {h : Heap} {mC : Str → Option Value} (cs : CS h₀ L m C oC D ys news h) (ho : NsObj oC mC) : h.Ns C mC := ho.ns (cs.N _ List.mem_cons_self).1

theorem comp_name {x : Str} {px : Pos} {v : Value} {Q : Unit → Shared → Prop} (hk : scope.kind = .function) (hx : scope.names.lookup x = some .local) (cs : CS h₀ L m C oC D ys news s.heap)
    (k : ∀ h' tk' oC' mC, CS h₀ L m C oC' D ys news h' → NsObj oC' mC → mC x = some v → Q () { s with heap := h', toks := tk' }) :
    wpAny (model prog w) A (assign (.Name x px) (compEnvC scope cl C env) v) Q E s := by
  obtain ⟨mC, ho⟩ := cs.ns
  refine wpAny_assign_Name (wpAny_storeName_local (lookup_relabel_local hx) (cs.nsC ho) (fun h' hn hs => ?_) (by simp [compEnvC, relabel, hk]))
  obtain ⟨oC', cs', ho'⟩ := cs.setC hs hn
  exact k _ _ _ _ cs' ho' (by simp)

theorem comp_pair {x y : Str} {px py tp : Pos} {kk : Nat} {t : Addr} {a b : Value} {Q : Unit → Shared → Prop} (hh : A.handled = none) (hk : scope.kind = .function) (hx : scope.names.lookup x = some .local) (hy : scope.names.lookup y = some .local) (hxy : x ≠ y)
    (cs : CS h₀ L m C oC D ys news s.heap) (ht : IsTup s.heap t #[a, b]) 
    (k : ∀ h' tk' oC' mC, CS h₀ L m C oC' D ys news h' → NsObj oC' mC → mC x = some a → mC y = some b → Q () { s with heap := h', toks := tk' }) :
    wpAny (model prog w) A (assign (.Tuple [.Name x px, .Name y py] kk tp) (compEnvC scope cl C env) (.ref t)) Q E s := by
  refine assign_Tuple_tuple hh ht rfl rfl fun h₁ he => ?_
  have lt : ∀ b o, s.heap.get? b = some o → h₁.get? b = some o := fun b o e => he b o (Nat.ne_of_lt (Heap.lt_size e)) e
  have cs₁ := cs.grow lt
  show wpAny _ _ (assignInOrder [assign (.Name x px) (compEnvC scope cl C env), assign (.Name y py) (compEnvC scope cl C env)] [a, b]) _ _ _
  obtain ⟨mC, ho⟩ := cs₁.ns
  refine wpAny_bind (wpAny_holding (wpAny_assign_Name (wpAny_storeName_local (lookup_relabel_local hx) (cs₁.nsC ho) (fun h₂ hn hs => ?_) (by simp [compEnvC, relabel, hk]))))
  obtain ⟨oC₂, cs₂, ho₂⟩ := cs₁.setC hs hn
  refine wpAny_bind (wpAny_holding (wpAny_assign_Name (wpAny_storeName_local (lookup_relabel_local hy) (cs₂.nsC ho₂) (fun h₃ hn₃ hs₃ => ?_) (by simp [compEnvC, relabel, hk]))))
  obtain ⟨oC₃, cs₃, ho₃⟩ := cs₂.setC hs₃ hn₃
  exact wpAny_pure (k _ _ _ _ cs₃ ho₃ (by simp [hxy]) (by simp))
end
end Mine
end
section
open PySem PySem.W PyProof.Rows PySem.Calls
open PyProof.Rows.LCg (NsObj ns_obj lst lst_snoc SrcAt)
set_option Elab.async false
set_option maxRecDepth 100000
set_option maxHeartbeats 4000000
namespace Mine
section
variable {prog : Program} {w : World} {A : Around} {E : Value → Shared → Prop} {s : Shared} {env : Env} {h₀ : Heap} {L : Addr} {m : Str → Option Value}

def CEndI (h₀ : Heap) (L : Addr) (m : Str → Option Value) (C D I : Addr) (oI : Obj) (ys : List Value) (s₁ : Shared) (P : List (Addr × Obj) → Prop) (s' : Shared) : Prop :=
  ∃ h' tk' oC' news', s' = { s₁ with heap := h', toks := tk' } ∧ CS h₀ L m C oC' D ys ((I, oI) :: news') h' ∧ (∀ p ∈ news', p.1 ≠ I) ∧ P news'

def LTurn (prog : Program) (w : World) (A : Around) (h₀ : Heap) (L : Addr) (m : Str → Option Value) (env : Env) (scope : Scope) (cl : List (Str × Addr)) (elt target c : Expr) (vs : List Value) (s₁ : Shared)
    (J : Nat → List Value → List (Addr × Obj) → Prop) : Prop :=
  ∀ i v ys news C oC D I oI h tk, vs[i]? = some v → J i ys news → CS h₀ L m C oC D ys ((I, oI) :: news) h → (∀ p ∈ news, p.1 ≠ I) →
    wpAny (model prog w) A (assign target (compEnvC scope cl C env) v) (fun _ s₃ =>
      wpAny (model prog w) A (isTrue c (compEnvC scope cl C env) (eval c (compEnvC scope cl C env))) (fun ok s₄ => if ok = true then
        wpAny (model prog w) A (eval elt (compEnvC scope cl C env)) (fun y s₅ => CEndI h₀ L m C D I oI ys s₁ (J (i + 1) (ys ++ [y])) s₅) FF s₄
        else CEndI h₀ L m C D I oI ys s₁ (J (i + 1) ys) s₄) FF s₃) FF { s₁ with heap := h, toks := tk }

theorem go_name {x : Str} {px : Pos} {it v : Value} {Q : Unit → Shared → Prop} (h : Q () s) : wpAny (model prog w) A (letOwnedTupleGo (.Name x px) it v) Q E s := wpAny_pure h
theorem go_tuple {elts : List Expr} {x1} {tp : Pos} {I l : Addr} {i : Nat} {v : Value} {Q : Unit → Shared → Prop} (hit : s.heap.IsListIter I l i) (h : Q () s) : wpAny (model prog w) A (letOwnedTupleGo (.Tuple elts x1 tp) (.ref I) v) Q E s := by
  cases v with
  | ref T => exact wpAny_letOwnedTupleGo_listiter hit h
  | _ => exact wpAny_pure h

/-- a comprehension's list, its invariant and its turn -/
structure LPkg (prog : Program) (w : World) (A : Around) (h₀ : Heap) (L : Addr) (m : Str → Option Value) (env : Env) (scope : Scope) (cl : List (Str × Addr)) (elt target c : Expr) (s₁ : Shared) (l : Addr) (vs : List Value) (news : List (Addr × Obj))
    (J : Nat → List Value → List (Addr × Obj) → Prop) : Prop where
  F : Fr h₀ L s₁.heap m
  N : News h₀ L s₁.heap news
  size : vs.length ≤ sizeLine
  start : J 0 [] news
  src : ∀ i ys news, J i ys news → ys.length ≤ i ∧ SrcAt h₀ l vs.toArray news
  turn : LTurn prog w A h₀ L m env scope cl elt target c vs s₁ J

def K_LPkg_iter.P (elt : Expr) (target : Expr) (c : Expr) (scope : Scope) (cl : List (Str × Addr)) (s₁ : Shared) (l : Addr) (vs : List Value) (news : List (Addr × Obj)) (J : Nat → List Value → List (Addr × Obj) → Prop) (Q : Value → Shared → Prop) : Prop :=
  ∀ (hh : A.handled = none) (hgo : ∀ (l I : Addr) (i : Nat) (v : Value) (s : Shared) (Q : Unit → Shared → Prop), s.heap.IsListIter I l i → Q () s → wpAny (model prog w) A (letOwnedTupleGo target (.ref I) v) Q FF s) (P : LPkg prog w A h₀ L m env scope cl elt target c s₁ l vs news J) (k : ∀ it g nf n J', CPkg prog w A h₀ L m env scope cl elt target c (fun ys nf => ∃ nw, J vs.length ys nw ∧ ∀ p ∈ nw, p ∈ nf) it { s₁ with heap := g } nf n J' → Q it { s₁ with heap := g }), wpAny (model prog w) A (pyIter (.ref l)) Q E s₁
end
namespace K_LPkg_iter
theorem ne : Nonempty ((Program) × (World) × (Around) × (Value → Shared → Prop) × (Env) × (Heap) × (Addr) × (Str → Option Value) × (Expr) × (Expr) × (Expr) × (Scope) × (List (Str × Addr)) × (Shared) × (Addr) × (List Value) × (List (Addr × Obj)) × (Nat → List Value → List (Addr × Obj) → Prop) × (Value → Shared → Prop)) := ⟨(Classical.ofNonempty, w0, ⟨none, 0, none, none, 0⟩, Classical.ofNonempty, Classical.ofNonempty, Classical.ofNonempty, Classical.ofNonempty, Classical.ofNonempty, Classical.ofNonempty, Classical.ofNonempty, Classical.ofNonempty, Classical.ofNonempty, Classical.ofNonempty, {}, Classical.ofNonempty, Classical.ofNonempty, Classical.ofNonempty, Classical.ofNonempty, Classical.ofNonempty)⟩
noncomputable def κ : (Program) × (World) × (Around) × (Value → Shared → Prop) × (Env) × (Heap) × (Addr) × (Str → Option Value) × (Expr) × (Expr) × (Expr) × (Scope) × (List (Str × Addr)) × (Shared) × (Addr) × (List Value) × (List (Addr × Obj)) × (Nat → List Value → List (Addr × Obj) → Prop) × (Value → Shared → Prop) := pick ne fun c => ¬ @P (c.1) (c.2.1) (c.2.2.1) (c.2.2.2.1) (c.2.2.2.2.1) (c.2.2.2.2.2.1) (c.2.2.2.2.2.2.1) (c.2.2.2.2.2.2.2.1) (c.2.2.2.2.2.2.2.2.1) (c.2.2.2.2.2.2.2.2.2.1) (c.2.2.2.2.2.2.2.2.2.2.1) (c.2.2.2.2.2.2.2.2.2.2.2.1) (c.2.2.2.2.2.2.2.2.2.2.2.2.1) (c.2.2.2.2.2.2.2.2.2.2.2.2.2.1) (c.2.2.2.2.2.2.2.2.2.2.2.2.2.2.1) (c.2.2.2.2.2.2.2.2.2.2.2.2.2.2.2.1) (c.2.2.2.2.2.2.2.2.2.2.2.2.2.2.2.2.1) (c.2.2.2.2.2.2.2.2.2.2.2.2.2.2.2.2.2.1) (c.2.2.2.2.2.2.2.2.2.2.2.2.2.2.2.2.2.2)
noncomputable def prog : Program := κ.1
noncomputable def w : World := κ.2.1
noncomputable def A : Around := κ.2.2.1
noncomputable def E : Value → Shared → Prop := κ.2.2.2.1
noncomputable def env : Env := κ.2.2.2.2.1
noncomputable def h₀ : Heap := κ.2.2.2.2.2.1
noncomputable def L : Addr := κ.2.2.2.2.2.2.1
noncomputable def m : Str → Option Value := κ.2.2.2.2.2.2.2.1
noncomputable def elt : Expr := κ.2.2.2.2.2.2.2.2.1
noncomputable def target : Expr := κ.2.2.2.2.2.2.2.2.2.1
noncomputable def c : Expr := κ.2.2.2.2.2.2.2.2.2.2.1
noncomputable def scope : Scope := κ.2.2.2.2.2.2.2.2.2.2.2.1
noncomputable def cl : List (Str × Addr) := κ.2.2.2.2.2.2.2.2.2.2.2.2.1
noncomputable def s₁ : Shared := κ.2.2.2.2.2.2.2.2.2.2.2.2.2.1
noncomputable def l : Addr := κ.2.2.2.2.2.2.2.2.2.2.2.2.2.2.1
noncomputable def vs : List Value := κ.2.2.2.2.2.2.2.2.2.2.2.2.2.2.2.1
noncomputable def news : List (Addr × Obj) := κ.2.2.2.2.2.2.2.2.2.2.2.2.2.2.2.2.1
noncomputable def J : Nat → List Value → List (Addr × Obj) → Prop := κ.2.2.2.2.2.2.2.2.2.2.2.2.2.2.2.2.2.1
noncomputable def Q : Value → Shared → Prop := κ.2.2.2.2.2.2.2.2.2.2.2.2.2.2.2.2.2.2
theorem core : @P prog w A E env h₀ L m elt target c scope cl s₁ l vs news J Q := by
  intro hh hgo P k
  obtain ⟨F, N, hvs, hJ, hsrc, turn⟩ := P
  have hl := (hsrc _ _ _ hJ).2.list F.keep N
  refine wpAny_pyIter_list hl ?_
  have up : Kp s₁.heap (s₁.heap.push { cls := .type "list_iterator", data := .fields #[.ref l, .int 0 0] }) := fun b o e => Heap.get?_push_of_some _ e
  have hlt : l < s₁.heap.objs.size := by obtain ⟨_, e, _⟩ := hl; exact Heap.lt_size e
  let Ob : Nat → Obj → Prop := fun i oI => oI.cls = .type "list_iterator" ∧ oI.data = .fields #[.ref l, .int i 0]
  refine k _ _ ((s₁.heap.objs.size, { cls := .type "list_iterator", data := .fields #[.ref l, .int 0 0] }) :: news) (vs.length + 1) (fun n ys nf => ∃ i oI nw, n = vs.length + 1 - i ∧ i ≤ vs.length ∧ nf = (s₁.heap.objs.size, oI) :: nw ∧ (∀ p ∈ nw, p.1 ≠ s₁.heap.objs.size) ∧ Ob i oI ∧ J i ys nw) ⟨fr_after F up, fun p hp => ?_, ⟨0, _, news, rfl, Nat.zero_le _, rfl, fun p hp => Nat.ne_of_lt (Heap.lt_size (N p hp).1), ⟨rfl, rfl⟩, hJ⟩, ?_, ?_, ?_⟩
  · rcases List.mem_cons.mp hp with rfl | hp
    · exact ⟨Heap.get?_push_size _ rfl, Nat.ne_of_gt F.ns.lt, next_is_new F⟩
    · exact ⟨up _ _ (N p hp).1, (N p hp).2⟩
  · intro n ys nf hq1
    (try k_fold)
    obtain ⟨i, oI, nw, rfl, hi, rfl, _, _, hJ'⟩ := hq1
    exact Nat.le_trans (Nat.le_trans (hsrc _ _ _ hJ').1 hi) hvs
  · intro h' tk' N'
    exact wpAny_pyIter_listiter (i := 0) ⟨_, (N' _ List.mem_cons_self).1, rfl, rfl⟩ ⟨rfl, rfl⟩
  · intro n ys nf C oC D h' tk' hq2 cs
    (try k_fold)
    obtain ⟨i, oI, nw, rfl, hi, rfl, hoff, hob, hJ'⟩ := hq2
    have zI := cs.N _ (List.mem_cons_of_mem _ (List.mem_cons_of_mem _ List.mem_cons_self))
    have cI := cs.off _ List.mem_cons_self
    have Nw : News h₀ L h' nw := fun p hp => cs.N p (List.mem_cons_of_mem _ (List.mem_cons_of_mem _ (List.mem_cons_of_mem _ hp)))
    have hl' := (hsrc _ _ _ hJ').2.list cs.F.keep Nw
    have hit : h'.IsListIter s₁.heap.objs.size l i := ⟨oI, zI.1, hob.1, hob.2⟩
    by_cases hlt' : i < vs.length
    · refine wpAny_pyNext_list_item hit hl' (x := vs[i]) (by simp [hlt']) fun h2 hit2 hs2 => ?_
      obtain ⟨oI2, e2, hc2, hd2⟩ := id hit2
      refine hgo l _ (i + 1) vs[i] _ _ hit2 ?_
      have cs2 : CS h₀ L m C oC D ys ((s₁.heap.objs.size, oI2) :: nw) h2 := by
        refine ⟨cs.F.change hs2 zI.2.1 zI.2.2, fun p hp => ?_, fun p hp => ?_, cs.cd, cs.ns⟩
        · rcases List.mem_cons.mp hp with rfl | hp
          · have z := cs.N _ List.mem_cons_self
            exact ⟨(hs2.2 _ (Ne.symm cI.1)).trans z.1, z.2⟩
          · rcases List.mem_cons.mp hp with rfl | hp
            · have z := cs.N _ (List.mem_cons_of_mem _ List.mem_cons_self)
              exact ⟨(hs2.2 _ (Ne.symm cI.2)).trans z.1, z.2⟩
            · rcases List.mem_cons.mp hp with rfl | hp
              · exact ⟨e2, zI.2⟩
              · exact ⟨(hs2.2 _ (hoff p hp)).trans (Nw p hp).1, (Nw p hp).2⟩
        · rcases List.mem_cons.mp hp with rfl | hp
          · exact cI
          · exact cs.off p (List.mem_cons_of_mem _ hp)
      refine wpAny_mono (turn i vs[i] ys nw C oC D _ oI2 h2 tk' (by simp [hlt']) hJ' cs2 hoff) (fun _ s3 h3 => ?_) fun _ _ e => e
      refine wpAny_mono h3 (fun ok s4 h4 => ?_) fun _ _ e => e
      cases ok with
      | false =>
        simp only [Bool.false_eq_true, if_false] at h4 ⊢
        obtain ⟨h5, tk5, oC5, nw5, rfl, cs5, off5, hJ5⟩ := h4
        exact ⟨h5, tk5, oC5, _, rfl, cs5, vs.length + 1 - (i + 1), decK (Nat.le_of_succ_le (by assumption)) (by decide), i + 1, oI2, nw5, rfl, hlt', rfl, off5, ⟨hc2, hd2⟩, hJ5⟩
      | true =>
        simp only [if_true] at h4 ⊢
        refine wpAny_mono h4 (fun y s5 h5 => ?_) fun _ _ e => e
        obtain ⟨h5, tk5, oC5, nw5, rfl, cs5, off5, hJ5⟩ := h5
        exact ⟨h5, tk5, oC5, _, rfl, cs5, vs.length + 1 - (i + 1), decK (Nat.le_of_succ_le (by assumption)) (by decide), i + 1, oI2, nw5, rfl, hlt', rfl, off5, ⟨hc2, hd2⟩, hJ5⟩
    · obtain rfl : i = vs.length := Nat.le_antisymm hi (Nat.not_lt.mp hlt')
      refine wpAny_pyNext_list_end hh hit hl' (by simp) fun h2 he2 => ?_
      have z : ∀ b o, b ≠ s₁.heap.objs.size → h'.get? b = some o → h2.get? b = some o := fun b o hb e => he2 b o hb e
      refine ⟨h2, tk', oC, nw, rfl, ⟨⟨cs.F.ns.at' fun o e => z _ o (Ne.symm zI.2.1) e, fun b o e => z b o (fun q => by rw [q, zI.2.2] at e; cases e) (cs.F.keep b o e), cs.F.above⟩, fun p hp => ?_, fun p hp => cs.off p (List.mem_cons_of_mem _ hp), cs.cd, cs.ns⟩, nw, hJ', fun _ hp => hp⟩
      rcases List.mem_cons.mp hp with rfl | hp
      · have q := cs.N _ List.mem_cons_self
        exact ⟨z _ _ (Ne.symm cI.1) q.1, q.2⟩
      · rcases List.mem_cons.mp hp with rfl | hp
        · have q := cs.N _ (List.mem_cons_of_mem _ List.mem_cons_self)
          exact ⟨z _ _ (Ne.symm cI.2) q.1, q.2⟩
        · exact ⟨z _ _ (hoff p hp) (Nw p hp).1, (Nw p hp).2⟩
end K_LPkg_iter
section
variable {prog : Program} {w : World} {A : Around} {E : Value → Shared → Prop} {s : Shared} {env : Env} {h₀ : Heap} {L : Addr} {m : Str → Option Value}
theorem LPkg.iter {elt target c : Expr} {scope : Scope} {cl : List (Str × Addr)} {s₁ : Shared} {l : Addr} {vs : List Value} {news : List (Addr × Obj)} {J : Nat → List Value → List (Addr × Obj) → Prop} {Q : Value → Shared → Prop} (hh : A.handled = none)
    (hgo : ∀ (l I : Addr) (i : Nat) (v : Value) (s : Shared) (Q : Unit → Shared → Prop), s.heap.IsListIter I l i → Q () s → wpAny (model prog w) A (letOwnedTupleGo target (.ref I) v) Q FF s)
    (P : LPkg prog w A h₀ L m env scope cl elt target c s₁ l vs news J)
    (k : ∀ it g nf n J', CPkg prog w A h₀ L m env scope cl elt target c (fun ys nf => ∃ nw, J vs.length ys nw ∧ ∀ p ∈ nw, p ∈ nf) it { s₁ with heap := g } nf n J' → Q it { s₁ with heap := g }) :
    wpAny (model prog w) A (pyIter (.ref l)) Q E s₁ :=
  pickAll K_LPkg_iter.ne (P := fun c => @K_LPkg_iter.P (c.1) (c.2.1) (c.2.2.1) (c.2.2.2.1) (c.2.2.2.2.1) (c.2.2.2.2.2.1) (c.2.2.2.2.2.2.1) (c.2.2.2.2.2.2.2.1) (c.2.2.2.2.2.2.2.2.1) (c.2.2.2.2.2.2.2.2.2.1) (c.2.2.2.2.2.2.2.2.2.2.1) (c.2.2.2.2.2.2.2.2.2.2.2.1) (c.2.2.2.2.2.2.2.2.2.2.2.2.1) (c.2.2.2.2.2.2.2.2.2.2.2.2.2.1) (c.2.2.2.2.2.2.2.2.2.2.2.2.2.2.1) (c.2.2.2.2.2.2.2.2.2.2.2.2.2.2.2.1) (c.2.2.2.2.2.2.2.2.2.2.2.2.2.2.2.2.1) (c.2.2.2.2.2.2.2.2.2.2.2.2.2.2.2.2.2.1) (c.2.2.2.2.2.2.2.2.2.2.2.2.2.2.2.2.2.2)) K_LPkg_iter.core (prog, w, A, E, env, h₀, L, m, elt, target, c, scope, cl, s₁, l, vs, news, J, Q) hh hgo P k
theorem my_comp_list {elt target iter c : Expr} {scope : Scope} {cl : List (Str × Addr)} {pos : Pos} {Q : Value → Shared → Prop} (_F₀ : Fr h₀ L s.heap m) (hh : A.handled = none)
    (hclos : closureFor scope env = pure cl) (hcell : ∀ y ∈ scope.names, y.2 ≠ .cell) (hkind : scope.kind = .function)
    (hnames : ∀ y ∈ scope.names, y.2 = .local → scope.names.lookup y.1 = some .local) (hs : ∀ x, foldedSetIterable iter env x = pure x)
    (hgo : ∀ (l I : Addr) (i : Nat) (v : Value) (s : Shared) (Q : Unit → Shared → Prop), s.heap.IsListIter I l i → Q () s → wpAny (model prog w) A (letOwnedTupleGo target (.ref I) v) Q FF s)
    (h : wpAny (model prog w) A (eval iter env) (fun xv s₁ => ∃ l vs news J, xv = .ref l ∧ LPkg prog w A h₀ L m env scope cl elt target c s₁ l vs news J ∧
      (∀ D ys news h tk, J vs.length ys news → Fr h₀ L h m → News h₀ L h ((D, lst ys) :: news) → (∀ p ∈ news, p.1 ≠ D) → Q (.ref D) { s₁ with heap := h, toks := tk })) E s) :
    wpAny (model prog w) A (eval (.ListComp elt [⟨target, iter, [c], 0⟩] scope pos) env) Q E s := by
  refine my_comp (h₀ := h₀) (L := L) (m := m) hclos hcell hkind hnames hs (wpAny_mono h (fun xv s₁ h₁ => ?_) fun _ _ e => e)
  obtain ⟨l, vs, news, J, rfl, P, fin⟩ := h₁
  refine P.iter hh hgo fun it g nf n J' P' => ⟨_, _, _, _, P', ?_⟩
  intro D ys nf h' tk' hq3 F' N' off'
  (try k_fold)
  obtain ⟨nw, hJ', hsub⟩ := hq3
  refine fin D ys nw h' tk' hJ' F' (fun p hp => N' p ?_) fun p hp => off' p (hsub p hp)
  rcases List.mem_cons.mp hp with rfl | hp
  · exact List.mem_cons_self
  · exact List.mem_cons_of_mem _ (hsub p hp)

theorem my_comp_list_assign {elt target iter c : Expr} {y : Str} {py spos : Pos} {scope : Scope} {cl : List (Str × Addr)} {pos : Pos} {Q : Flow → Shared → Prop} (_F₀ : Fr h₀ L s.heap m) (hh : A.handled = none) (hLe : env.locals = L)
    (hsw : swapsWith (.ListComp elt [⟨target, iter, [c], 0⟩] scope pos) (some (.Name y py)) spos.line env = pure true)
    (hclos : closureFor scope env = pure cl) (hcell : ∀ y ∈ scope.names, y.2 ≠ .cell) (hkind : scope.kind = .function)
    (hnames : ∀ y ∈ scope.names, y.2 = .local → scope.names.lookup y.1 = some .local) (hs : ∀ x, foldedSetIterable iter env x = pure x)
    (hy : env.kindOf y = some .local) (hp : (env.scope.kind == .class || (env.scope.kind == .module && env.locals != env.globals)) = false)
    (hgo : ∀ (l I : Addr) (i : Nat) (v : Value) (s : Shared) (Q : Unit → Shared → Prop), s.heap.IsListIter I l i → Q () s → wpAny (model prog w) A (letOwnedTupleGo target (.ref I) v) Q FF s)
    (h : wpAny (model prog w) A (eval iter env) (fun xv s₁ => ∃ l vs news J, xv = .ref l ∧ LPkg prog w A h₀ L m env scope cl elt target c s₁ l vs news J ∧
      (∀ D ys news h tk, J vs.length ys news → Fr h₀ L h (fun z => if z = y then some (.ref D) else m z) → News h₀ L h ((D, lst ys) :: news) → (∀ p ∈ news, p.1 ≠ D) → Q .next { s₁ with heap := h, toks := tk })) E s) :
    wpAny (model prog w) A (exec (.Assign [.Name y py] (.ListComp elt [⟨target, iter, [c], 0⟩] scope pos) spos) env) Q E s := by
  refine my_comp_assign (h₀ := h₀) (m := m) hLe hsw hclos hcell hkind hnames hs hy hp (wpAny_mono h (fun xv s₁ h₁ => ?_) fun _ _ e => e)
  obtain ⟨l, vs, news, J, rfl, P, fin⟩ := h₁
  refine P.iter hh hgo fun it g nf n J' P' => ⟨_, _, _, _, P', ?_⟩
  intro D ys nf h' tk' hq4 F' N' off'
  (try k_fold)
  obtain ⟨nw, hJ', hsub⟩ := hq4
  refine fin D ys nw h' tk' hJ' F' (fun p hp => N' p ?_) fun p hp => off' p (hsub p hp)
  rcases List.mem_cons.mp hp with rfl | hp
  · exact List.mem_cons_self
  · exact List.mem_cons_of_mem _ (hsub p hp)
end
end Mine
end
section
open PySem PySem.W PyProof.Rows PySem.Calls
set_option Elab.async false
set_option compiler.extract_closed false
set_option maxRecDepth 100000
set_option maxHeartbeats 4000000
namespace Mine
theorem bud {a k D D' M : Nat} (h : a + D < M) (e : Nat.ble (k + D') D = true) : a + k + D' < M :=
  Nat.lt_of_le_of_lt (by rw [Nat.add_assoc]; exact Nat.add_le_add_left (Nat.le_of_ble_eq_true e) a) h
theorem bud0 {a D D' M : Nat} (h : a + D < M) (e : Nat.ble D' D = true) : a + D' < M :=
  Nat.lt_of_le_of_lt (Nat.add_le_add_left (Nat.le_of_ble_eq_true e) a) h
theorem use_spec0 {w : World} {f : Addr} {vs : List Value} {D U : Nat} {s : Shared} {V : Value} {A : Around} {Q E : Value → Shared → Prop} {h₀ : Heap} {L : Addr} {m : Str → Option Value} {own : List (Addr × Obj)}
    (C : Spec w f vs D U s.heap fun tl v => tl = [] ∧ v = V) (hA : A.handled = none) (hd : A.depth + D < recursionLimit) (hu : A.units + U < cLine) (F : Fr h₀ L s.heap m) (N : News h₀ L s.heap own)
    (k : ∀ h' tk', Fr h₀ L h' m → News h₀ L h' own → Q V { s with heap := h', toks := tk' }) : wpAny (model MP w) A (call (.ref f) vs) Q E s :=
  use_spec C hA hd hu F N fun v tl h' tk' F' N' _ R' => by
    obtain ⟨rfl, rfl⟩ := R'
    rw [List.append_nil] at N'
    exact k h' tk' F' N'
theorem use_spec1 {w : World} {f : Addr} {vs : List Value} {D U : Nat} {s : Shared} {V : Tok → Value} {A : Around} {Q E : Value → Shared → Prop} {h₀ : Heap} {L : Addr} {m : Str → Option Value} {own : List (Addr × Obj)}
    (C : Spec w f vs D U s.heap fun tl v => tl = [] ∧ ∃ t, v = V t) (hA : A.handled = none) (hd : A.depth + D < recursionLimit) (hu : A.units + U < cLine) (F : Fr h₀ L s.heap m) (N : News h₀ L s.heap own)
    (k : ∀ t h' tk', Fr h₀ L h' m → News h₀ L h' own → Q (V t) { s with heap := h', toks := tk' }) : wpAny (model MP w) A (call (.ref f) vs) Q E s :=
  use_spec C hA hd hu F N fun v tl h' tk' F' N' _ R' => by
    obtain ⟨rfl, t, rfl⟩ := R'
    rw [List.append_nil] at N'
    exact k t h' tk' F' N'
theorem Stop.ref {P : Program} {w : World} {A : Around} {f : Addr} {vs : List Value} {Q E : Value → Shared → Prop} {s : Shared} (h : wpAny (model P w) A (call (.ref f) vs) Q E s) : Stop (wpAny (model P w) A (call (.ref f) vs) Q E s) := h
theorem Stop.bui (b : String) {P : Program} {w : World} {A : Around} {vs : List Value} {Q E : Value → Shared → Prop} {s : Shared} (h : wpAny (model P w) A (call (.builtin b) vs) Q E s) : Stop (wpAny (model P w) A (call (.builtin b) vs) Q E s) := h
theorem Stop.sub {P : Program} {w : World} {A : Around} {x y : Expr} {i : Int} {r : Addr} {t : Tok} {Q E : Value → Shared → Prop} {s : Shared} (h : wpAny (model P w) A (subscriptTail x y (.ref r) (.int i t)) Q E s) : Stop (wpAny (model P w) A (subscriptTail x y (.ref r) (.int i t)) Q E s) := h
theorem Stop.cmp {P : Program} {w : World} {A : Around} {op} {a b : Addr} {Q E : Value → Shared → Prop} {s : Shared} (h : wpAny (model P w) A (compareOp op (.ref a) (.ref b)) Q E s) : Stop (wpAny (model P w) A (compareOp op (.ref a) (.ref b)) Q E s) := h
theorem Stop.cw {P : Program} {w : World} {A : Around} {p : Pos} {a : Addr} {vs : List Value} {x} {y} {Q E : Value → Shared → Prop} {s : Shared} (h : wpAny (model P w) A (callWith p (.ref a) vs x y) Q E s) : Stop (wpAny (model P w) A (callWith p (.ref a) vs x y) Q E s) := h
theorem Stop.bin {P : Program} {w : World} {A : Around} {op} {i j : Int} {t u : Tok} {Q E : Value → Shared → Prop} {s : Shared} (h : wpAny (model P w) A (binaryOp op (.int i t) (.int j u)) Q E s) : Stop (wpAny (model P w) A (binaryOp op (.int i t) (.int j u)) Q E s) := h
theorem StopB {P : Program} {w : World} {A : Around} {b : String} {r : Addr} {Q E : Value → Shared → Prop} {s : Shared} (h : Stop (wpAny (model P w) A (call (.builtin b) [.ref r]) Q E s)) : wpAny (model P w) A (call (.builtin b) [.ref r]) Q E s := h
section
variable {P : Program} {w : World} {M : Model} {A : Around} {E : Value → Shared → Prop} {s : Shared}
theorem Stop.subU {Q : Value → Shared → Prop} {v e : Expr} {o} {p : Pos} {r : Addr} {i : Int} {t : Tok} (h : wpAny (model P w) A (subscriptTail v (.UnaryOp o e p) (.ref r) (.int i t)) Q E s) : Stop (wpAny (model P w) A (subscriptTail v (.UnaryOp o e p) (.ref r) (.int i t)) Q E s) := h
theorem Stop.subC {Q : Value → Shared → Prop} {v : Expr} {o} {n : Nat} {p : Pos} {r : Addr} {i : Int} {t : Tok} (h : wpAny (model P w) A (subscriptTail v (.Constant o n p) (.ref r) (.int i t)) Q E s) : Stop (wpAny (model P w) A (subscriptTail v (.Constant o n p) (.ref r) (.int i t)) Q E s) := h
theorem Stop.isn {Q : Value → Shared → Prop} {a b : Value} (h : wpAny M A (compareOp .IsNot a b) Q E s) : Stop (wpAny M A (compareOp .IsNot a b) Q E s) := h
theorem Stop.ldn {Q : Value → Shared → Prop} {e} {x : Str} (h : wpAny M A (loadName e x) Q E s) : Stop (wpAny M A (loadName e x) Q E s) := h
theorem Stop.gm {Q : Value × List Value → Shared → Prop} {r : Value} {x : Str} {pl : Sem Bool} (h : wpAny M A (getMethod r x pl) Q E s) : Stop (wpAny M A (getMethod r x pl) Q E s) := h
theorem Stop.sbs {Q : Value → Shared → Prop} {v e : Expr} {x : Str} {u t : Tok} {i : Int} (h : wpAny M A (subscriptTail v e (.str x u) (.int i t)) Q E s) : Stop (wpAny M A (subscriptTail v e (.str x u) (.int i t)) Q E s) := h
theorem Stop.tst {Q : Bool → Shared → Prop} {x : Str} {u : Tok} (h : wpAny M A (truthy (.str x u)) Q E s) : Stop (wpAny M A (truthy (.str x u)) Q E s) := h
theorem Stop.trf {Q : Bool → Shared → Prop} {r : Addr} (h : wpAny M A (truthy (.ref r)) Q E s) : Stop (wpAny M A (truthy (.ref r)) Q E s) := h
theorem Stop.nm {Q : Value → Shared → Prop} {p e} (h : wpAny M A (eval (.Name (Str.ofString "s") p) e) Q E s) : Stop (wpAny M A (eval (.Name (Str.ofString "s") p) e) Q E s) := h
theorem StopGM {Q : Value × List Value → Shared → Prop} {r : Addr} {pl : Sem Bool} (h : Stop (wpAny M A (getMethod (.ref r) (Str.ofString "sub") pl) Q E s)) : wpAny M A (getMethod (.ref r) (Str.ofString "sub") pl) Q E s := h
theorem StopBO {Q : Flow → Shared → Prop} {a b c x y p e} (h : Stop (wpAny M A (exec (.If (.BoolOp a b c) x y p) e) Q E s)) : wpAny M A (exec (.If (.BoolOp a b c) x y p) e) Q E s := h
theorem StopI (n : Nat) {Q : Flow → Shared → Prop} {a b c x y z e} (h : Stop (wpAny M A (exec (.If a b c ⟨n, x, y, z⟩) e) Q E s)) : wpAny M A (exec (.If a b c ⟨n, x, y, z⟩) e) Q E s := h
theorem StopA (n : Nat) {Q : Flow → Shared → Prop} {a b x y z e} (h : Stop (wpAny M A (exec (.Assign a b ⟨n, x, y, z⟩) e) Q E s)) : wpAny M A (exec (.Assign a b ⟨n, x, y, z⟩) e) Q E s := h
theorem StopLC (n : Nat) {Q : Value → Shared → Prop} {a b c x y z e} (h : Stop (wpAny M A (eval (.ListComp a b c ⟨n, x, y, z⟩) e) Q E s)) : wpAny M A (eval (.ListComp a b c ⟨n, x, y, z⟩) e) Q E s := h
theorem StopN {Q : Value → Shared → Prop} {p e} (h : Stop (wpAny M A (eval (.Name (Str.ofString "s") p) e) Q E s)) : wpAny M A (eval (.Name (Str.ofString "s") p) e) Q E s := h
end
theorem stK {w : World} {h h' : Heap} {L : Addr} {m : Str → Option Value} (x : St w h := by assumption) (F : Fr h L h' m := by assumption) : St w h' := x.keeps F.keep
section
variable {prog : Program} {w : World} {A : Around} {E : Value → Shared → Prop} {s : Shared} {Q : Value → Shared → Prop} {t u : Tok}
theorem pow27 (h : Q (.int 134217728 s.toks) { s with toks := s.toks + 1 }) : wpAny (model prog w) A (binaryOp .Pow (.int 2 t) (.int 27 u)) Q E s := pow_lit (by decide) (by decide) (by decide) (by decide +kernel) h
theorem pow30 (h : Q (.int 1073741824 s.toks) { s with toks := s.toks + 1 }) : wpAny (model prog w) A (binaryOp .Pow (.int 2 t) (.int 30 u)) Q E s := pow_lit (by decide) (by decide) (by decide) (by decide +kernel) h
theorem pow33 (h : Q (.int 8589934592 s.toks) { s with toks := s.toks + 1 }) : wpAny (model prog w) A (binaryOp .Pow (.int 2 t) (.int 33 u)) Q E s := pow_lit (by decide) (by decide) (by decide) (by decide +kernel) h
theorem pow12 (h : Q (.int 1000000000000 s.toks) { s with toks := s.toks + 1 }) : wpAny (model prog w) A (binaryOp .Pow (.int 10 t) (.int 12 u)) Q E s := pow_lit (by decide) (by decide) (by decide) (by decide +kernel) h
end
end Mine
end
section
open PySem PySem.W PyProof.Rows PySem.Calls
set_option Elab.async false
set_option maxRecDepth 100000
set_option maxHeartbeats 4000000
namespace Mine
def HBCX (f : Addr) (w : World) (h : Heap) (L : Addr) (dp un : Nat) (fr : Option (List Env)) (gd : Option (List Code)) (s : Shared) (Q : Value → Shared → Prop) (binds : List (Str × Value)) (h₁ : Heap) (tk : Nat) (cells : List (Addr × Obj)) (body : List Stmt) (qual : Str) (scope : Scope) (cdv : Value) : Prop :=
  Fr h L h₁ (bindL (envOfC qual scope L f cdv).kindOf binds fun _ => none) → News h L h₁ cells →
      CellsAre (bindC (envOfC qual scope L f cdv).kindOf binds fun _ => none) (cellsFrom (L + 1) scope.names []) cells →
      wpAny (model MP w) (AA (dp + 1) (un + 3) (fr.map (envOfC qual scope L f cdv :: ·)) gd) (execs body (envOfC qual scope L f cdv))
        (fun fl s' => Q (match fl with | .ret v => v | _ => .none) s') (fun _ _ => False) { s with heap := h₁, toks := tk }
def HBC (K : Frag) (f : Addr) (w : World) (h : Heap) (L : Addr) (dp un : Nat) (fr : Option (List Env)) (gd : Option (List Code)) (s : Shared) (Q : Value → Shared → Prop) (binds : List (Str × Value)) (h₁ : Heap) (tk : Nat) : Prop :=
  ∀ (cells : List (Addr × Obj)) (oc : Value) (od : Option Addr) (osl : Array (Option Value)) (name qual : Str) (params : Arguments) (body : List Stmt) (scope : Scope) (dV kV doc pm : Value) (an : Option Addr) (cdv ct : Value),
    K.lookup f = some ⟨oc, od, .func (fnOf name qual params body scope dV kV doc pm an cdv ct), osl⟩ → HBCX f w h L dp un fr gd s Q binds h₁ tk cells body qual scope cdv
noncomputable def HTC (K : Frag) (f : Addr) (w : World) (h : Heap) (L : Addr) (dp un : Nat) (fr : Option (List Env)) (gd : Option (List Code)) (s : Shared) (Q : Value → Shared → Prop) (binds : List (Str × Value)) : Heap × Nat :=
  pick ⟨(default, 0)⟩ fun x => ¬ HBC K f w h L dp un fr gd s Q binds x.1 x.2
section
variable {w : World} {K : Frag} {D : Nat} {h : Heap} {p : Program} {loose : List Str} {mean : ExcName → Option Value} {mg mb : Str → Option Value}
  {name qual : Str} {params : Arguments} {body : List Stmt} {scope : Scope} {dV kV doc pm cdv ct oc : Value} {an od : Option Addr} {osl : Array (Option Value)} {f : Addr} {vals : List Value}
  {dp un : Nat} {fr : Option (List Env)} {gd : Option (List Code)} {s : Shared} {Q E : Value → Shared → Prop}
theorem enterEC (hdp : dp + D < recursionLimit) (hh : s.heap = h) (L : Addr) (hL : L = h.objs.size) (X : K.In h) (T : Top p loose mean mg mb h) (binds : List (Str × Value))
    (ho : K.lookup f = some ⟨oc, od, .func (fnOf name qual params body scope dV kV doc pm an cdv ct), osl⟩) (hcd : codeIn K cdv qual = true)
    (hD : 0 < D)
    (hbind : bindArgs (fnOf name qual params body scope dV kV doc pm an cdv ct) ⟨vals, []⟩ = pure binds)
    (hkind : (binds.all fun y => scope.names.lookup y.1 == some .local || scope.names.lookup y.1 == some .cell) = true)
    (hnd : ((cellsFrom 0 scope.names []).map (·.1)).Nodup)
    (hco : scope.isCoroutine = false) (hgen : scope.isGenerator = false) (hk : scope.kind = .function)
    (h₁ : Heap) (e₁ : h₁ = (HTC K f w h L dp un fr gd s Q binds).1) (tk : Nat) (e₂ : tk = (HTC K f w h L dp un fr gd s Q binds).2)
    (hb : ∀ cells, HBCX f w h L dp un fr gd s Q binds h₁ tk cells body qual scope cdv) :
    wpAny (model MP w) (AA dp un fr gd) (call (.ref f) vals) Q E s := by
  have key : ∀ x : Heap × Nat, HBC K f w h L dp un fr gd s Q binds x.1 x.2 := by
    refine pickAll ⟨(default, 0)⟩ (P := fun x => HBC K f w h L dp un fr gd s Q binds x.1 x.2) ?_
    intro cells' oc' od' osl' name' qual' params' body' scope' dV' kV' doc' pm' an' cdv' ct' ho'
    obtain ⟨q1, q2, q3, q4⟩ := fn_inj (ho'.symm.trans ho)
    rw [q1, q2, q3, q4]
    rw [e₁, e₂] at hb
    exact hb cells'
  subst hh hL
  refine wpAny_noRaise (wpAny_call ?_)
  refine codeAny_call_cells (fd := fnOf name qual params body scope dV kV doc pm an cdv ct) (Nat.lt_of_le_of_lt (Nat.le_add_right _ _) hdp) (X _ _ ho) rfl T.nolimit (codeRec_of X hcd) rfl hbind rfl (kindsX hkind _) (fun s₁ x => ?_) hco hgen hk
  obtain ⟨h₁, tk, rfl, _⟩ := x.done
  obtain ⟨cells, NC, Y⟩ := Cl.news (h₀ := s.heap) (Nat.le_refl _) fun n c hm => ⟨x.cell n c (lookup_of_mem_nodup (cellsFrom_names scope.names 0 (s.heap.objs.size + 1) [] [] rfl ▸ hnd) hm), x.above n c hm⟩
  exact wpAny_mono (key (h₁, tk) cells _ _ _ _ _ _ _ _ _ _ _ _ _ _ _ ho ⟨x.toInCall.ns, x.toInCall.keep, x.toInCall.fresh⟩ NC Y) (fun fl s' q => q) fun _ _ x => x.elim
end
end Mine
end
-- COMMON
set_option compiler.extract_closed false
set_option hygiene false
local macro_rules | `(tactic| wtm_at "mS") => `(tactic| refine Mine.Stop.mk ?_)
local macro_rules | `(tactic| wtm_at "mSB") => `(tactic| with_reducible refine Mine.StopB ?_)
local macro_rules | `(tactic| wtm_at "mLK") => `(tactic| repeat (first | with_reducible assumption | with_reducible exact if_pos rfl | refine (if_neg (by decide)).trans ?_))
local macro_rules | `(tactic| wtm_at "mXC") => `(tactic| (refine PySem.wpAny_execs_cons ?_; k_fold))
local macro_rules | `(tactic| wtm_at "mNM") => `(tactic| (k_here; (with_reducible show PySem.wpAny _ _ (PySem.eval (PySem.Expr.Name _ _) (PyProof.Rows.envOf _ _ _ _ _)) _ _ _); name_kind "local"; refine PyProof.Rows.ld (by assumption) (by wtm_at "mLK") ?_))
local macro_rules | `(tactic| wtm_at "mNC") => `(tactic| (k_here; (with_reducible show PySem.wpAny _ _ (PySem.eval (PySem.Expr.Name _ _) (PyProof.Rows.envOfC _ _ _ _ _)) _ _ _); name_kind "local"; refine PySem.W.nameX_L (by assumption) (by wtm_at "mLK") ?_))
local macro_rules | `(tactic| walk_at "call builtin:list.append") => `(tactic| wtm_at "mS")
local macro_rules | `(tactic| walk_at "call builtin:min") => `(tactic| wtm_at "mS")
local macro_rules | `(tactic| walk_at "call builtin:re.Pattern.sub") => `(tactic| wtm_at "mS")
local macro_rules | `(tactic| walk_at "call builtin:str.find") => `(tactic| wtm_at "mS")
local macro_rules | `(tactic| walk_at "call builtin:str.join") => `(tactic| wtm_at "mS")
local macro_rules | `(tactic| walk_at "call type:list") => `(tactic| wtm_at "mS")
local macro_rules | `(tactic| walk_at "compareOp Gt str str") => `(tactic| wtm_at "mS")
local macro_rules | `(tactic| walk_at "compareOp NotIn str str") => `(tactic| wtm_at "mS")
local macro_rules | `(tactic| walk_at "eval GeneratorExp") => `(tactic| wtm_at "mS")
local macro_rules | `(tactic| walk_at "eval Lambda") => `(tactic| wtm_at "mS")
local macro_rules | `(tactic| walk_at "exec Assign cons ListComp") => `(tactic| wtm_at "mS")
local macro_rules | `(tactic| walk_at "exec For") => `(tactic| wtm_at "mS")
local macro_rules | `(tactic| walk_at "exec For Name Call cons nil") => `(tactic| wtm_at "mS")
local macro_rules | `(tactic| walk_at "exec For Name Tuple cons nil") => `(tactic| wtm_at "mS")
local macro_rules | `(tactic| walk_at "exec While") => `(tactic| wtm_at "mS")
local macro_rules | `(tactic| walk_at "exec While BoolOp") => `(tactic| wtm_at "mS")
local macro_rules | `(tactic| walk_at "exec While Compare") => `(tactic| wtm_at "mS")
local macro_rules | `(tactic| walk_at "call ref") => `(tactic| wtm_at "mS")
local macro_rules | `(tactic| walk_at "call builtin:chr") => `(tactic| wtm_at "mS")
local macro_rules | `(tactic| walk_at "binaryOp Pow int int") => `(tactic| wtm_at "mS")
local macro_rules | `(tactic| walk_at "compareOp IsNot") => `(tactic| wtm_at "mS")
local macro_rules | `(tactic| walk_at "call builtin:str.replace") => `(tactic| wtm_at "mS")
-- END COMMON
section
open PySem PySem.W PyProof.Rows PySem.Calls
set_option Elab.async false
set_option maxRecDepth 100000
set_option maxHeartbeats 1000000
namespace Mine
namespace K_S_ctoi
def P (w : World) (h : Heap) (c : Nat) (t : Tok) (dp : Nat) (un : Nat) (fr : Option (List Env)) (gd : Option (List Code)) (s : Shared) (Q : Value → Shared → Prop) (E : Value → Shared → Prop) : Prop :=
  ∀ (hS : St w h), SpecAt w 76 [.str ⟨#[c]⟩ t] 2 20 h (fun tl v => tl = [] ∧ ∃ t, v = .int c t) dp un fr gd s Q E
theorem ne : Nonempty ((World) × (Heap) × (Nat) × (Tok) × (Nat) × (Nat) × (Option (List Env)) × (Option (List Code)) × (Shared) × (Value → Shared → Prop) × (Value → Shared → Prop)) := ⟨(w0, Classical.ofNonempty, Classical.ofNonempty, Classical.ofNonempty, Classical.ofNonempty, Classical.ofNonempty, Classical.ofNonempty, Classical.ofNonempty, {}, Classical.ofNonempty, Classical.ofNonempty)⟩
noncomputable def κ : (World) × (Heap) × (Nat) × (Tok) × (Nat) × (Nat) × (Option (List Env)) × (Option (List Code)) × (Shared) × (Value → Shared → Prop) × (Value → Shared → Prop) := pick ne fun c => ¬ P (c.1) (c.2.1) (c.2.2.1) (c.2.2.2.1) (c.2.2.2.2.1) (c.2.2.2.2.2.1) (c.2.2.2.2.2.2.1) (c.2.2.2.2.2.2.2.1) (c.2.2.2.2.2.2.2.2.1) (c.2.2.2.2.2.2.2.2.2.1) (c.2.2.2.2.2.2.2.2.2.2)
noncomputable def w : World := κ.1
noncomputable def h : Heap := κ.2.1
noncomputable def c : Nat := κ.2.2.1
noncomputable def t : Tok := κ.2.2.2.1
noncomputable def dp : Nat := κ.2.2.2.2.1
noncomputable def un : Nat := κ.2.2.2.2.2.1
noncomputable def fr : Option (List Env) := κ.2.2.2.2.2.2.1
noncomputable def gd : Option (List Code) := κ.2.2.2.2.2.2.2.1
noncomputable def s : Shared := κ.2.2.2.2.2.2.2.2.1
noncomputable def Q : Value → Shared → Prop := κ.2.2.2.2.2.2.2.2.2.1
noncomputable def E : Value → Shared → Prop := κ.2.2.2.2.2.2.2.2.2.2
noncomputable def L : Addr := Heap.objs h |>.size
noncomputable def h₁ : Heap := (HT (hd.heap_39 w.params) 76 w h L dp un fr gd s Q [(Str.ofString "c", .str ⟨#[c]⟩ t)]).1
noncomputable def tk : Nat := (HT (hd.heap_39 w.params) 76 w h L dp un fr gd s Q [(Str.ofString "c", .str ⟨#[c]⟩ t)]).2
theorem core : P w h c t dp un fr gd s Q E := by
  intro hS hdp hun hh hQ
  w_top off
  refine fillG ?_
  k_fill
  intro _ _
  obtain ⟨X, T⟩ := St.top hS
  refine' enterE (K := hd.heap_39 w.params) hdp hh L rfl X T [(Str.ofString "c", .str ⟨#[c]⟩ t)] ?k3 ?k4 (by lia) ?k6 ?k7 ?k8 ?k9 ?k10 ?k11 h₁ rfl tk rfl ?_
  case k3 => k_is
  case k4 => k_is
  case k6 => exact rfl
  case k7 => decide
  case k8 => exact locs rfl
  case k9 => exact rfl
  case k10 => exact rfl
  case k11 => exact rfl
  intro F N
  have hL : L = h.objs.size := rfl
  try dsimp only
  k_steps
  repeat' ((first | ((with_reducible refine Stop.bui "chr" ?_); first | (refine chr_val (bitAnd31 _) (by first | exact le31 _ | lia) ?_) | (refine chr_val (bitOr128 _ (by assumption)) (by first | exact le128 _ | lia) ?_) | (refine chr_val rfl (by lia) ?_))); (try k_steps))
  all_goals exact hQ _ [] _ _ (kp_of (by assumption)) Fsh.nil ⟨rfl, _, rfl⟩
end K_S_ctoi
theorem S_ctoi (w : World) (h : Heap) (c : Nat) (t : Tok) (hS : St w h)  : Spec w 76 [.str ⟨#[c]⟩ t] 2 20 h (fun tl v => tl = [] ∧ ∃ t, v = .int c t) :=
  spec_of fun dp un fr gd s Q E => pickAll K_S_ctoi.ne (P := fun c => K_S_ctoi.P (c.1) (c.2.1) (c.2.2.1) (c.2.2.2.1) (c.2.2.2.2.1) (c.2.2.2.2.2.1) (c.2.2.2.2.2.2.1) (c.2.2.2.2.2.2.2.1) (c.2.2.2.2.2.2.2.2.1) (c.2.2.2.2.2.2.2.2.2.1) (c.2.2.2.2.2.2.2.2.2.2)) K_S_ctoi.core (w, h, c, t, dp, un, fr, gd, s, Q, E) hS
namespace K_S_ctrl
def P (w : World) (h : Heap) (c : Nat) (t : Tok) (dp : Nat) (un : Nat) (fr : Option (List Env)) (gd : Option (List Code)) (s : Shared) (Q : Value → Shared → Prop) (E : Value → Shared → Prop) : Prop :=
  ∀ (hS : St w h) (hc : c < 256), SpecAt w 83 [.str ⟨#[c]⟩ t] 4 30 h (fun tl v => tl = [] ∧ ∃ t, v = .str ⟨#[c % 32]⟩ t) dp un fr gd s Q E
theorem ne : Nonempty ((World) × (Heap) × (Nat) × (Tok) × (Nat) × (Nat) × (Option (List Env)) × (Option (List Code)) × (Shared) × (Value → Shared → Prop) × (Value → Shared → Prop)) := ⟨(w0, Classical.ofNonempty, Classical.ofNonempty, Classical.ofNonempty, Classical.ofNonempty, Classical.ofNonempty, Classical.ofNonempty, Classical.ofNonempty, {}, Classical.ofNonempty, Classical.ofNonempty)⟩
noncomputable def κ : (World) × (Heap) × (Nat) × (Tok) × (Nat) × (Nat) × (Option (List Env)) × (Option (List Code)) × (Shared) × (Value → Shared → Prop) × (Value → Shared → Prop) := pick ne fun c => ¬ P (c.1) (c.2.1) (c.2.2.1) (c.2.2.2.1) (c.2.2.2.2.1) (c.2.2.2.2.2.1) (c.2.2.2.2.2.2.1) (c.2.2.2.2.2.2.2.1) (c.2.2.2.2.2.2.2.2.1) (c.2.2.2.2.2.2.2.2.2.1) (c.2.2.2.2.2.2.2.2.2.2)
noncomputable def w : World := κ.1
noncomputable def h : Heap := κ.2.1
noncomputable def c : Nat := κ.2.2.1
noncomputable def t : Tok := κ.2.2.2.1
noncomputable def dp : Nat := κ.2.2.2.2.1
noncomputable def un : Nat := κ.2.2.2.2.2.1
noncomputable def fr : Option (List Env) := κ.2.2.2.2.2.2.1
noncomputable def gd : Option (List Code) := κ.2.2.2.2.2.2.2.1
noncomputable def s : Shared := κ.2.2.2.2.2.2.2.2.1
noncomputable def Q : Value → Shared → Prop := κ.2.2.2.2.2.2.2.2.2.1
noncomputable def E : Value → Shared → Prop := κ.2.2.2.2.2.2.2.2.2.2
noncomputable def L : Addr := Heap.objs h |>.size
noncomputable def h₁ : Heap := (HT (hd.heap_39 w.params) 83 w h L dp un fr gd s Q [(Str.ofString "c", .str ⟨#[c]⟩ t)]).1
noncomputable def tk : Nat := (HT (hd.heap_39 w.params) 83 w h L dp un fr gd s Q [(Str.ofString "c", .str ⟨#[c]⟩ t)]).2
theorem core : P w h c t dp un fr gd s Q E := by
  intro hS hc hdp hun hh hQ
  w_top off
  refine fillG ?_
  k_fill
  intro _ _
  obtain ⟨X, T⟩ := St.top hS
  refine' enterE (K := hd.heap_39 w.params) hdp hh L rfl X T [(Str.ofString "c", .str ⟨#[c]⟩ t)] ?k3 ?k4 (by lia) ?k6 ?k7 ?k8 ?k9 ?k10 ?k11 h₁ rfl tk rfl ?_
  case k3 => k_is
  case k4 => k_is
  case k6 => exact rfl
  case k7 => decide
  case k8 => exact locs rfl
  case k9 => exact rfl
  case k10 => exact rfl
  case k11 => exact rfl
  intro F N
  have hL : L = h.objs.size := rfl
  try dsimp only
  k_steps
  repeat' ((first | ((with_reducible refine Stop.bui "chr" ?_); first | (refine chr_val (bitAnd31 _) (by first | exact le31 _ | lia) ?_) | (refine chr_val (bitOr128 _ (by assumption)) (by first | exact le128 _ | lia) ?_) | (refine chr_val rfl (by lia) ?_)) | ((with_reducible refine Stop.ref ?_); (first | refine use_spec1 (S_ctoi _ _ _ _ stK) rfl (by first | exact bud (by assumption) rfl | exact bud0 (by assumption) rfl) (by first | exact bud (by assumption) rfl | exact bud0 (by assumption) rfl) (by assumption) (by assumption) ?_); intro _ _ _ _ _)); (try k_steps))
  all_goals exact hQ _ [] _ _ (kp_of (by assumption)) Fsh.nil ⟨rfl, _, rfl⟩
end K_S_ctrl
theorem S_ctrl (w : World) (h : Heap) (c : Nat) (t : Tok) (hS : St w h) (hc : c < 256) : Spec w 83 [.str ⟨#[c]⟩ t] 4 30 h (fun tl v => tl = [] ∧ ∃ t, v = .str ⟨#[c % 32]⟩ t) :=
  spec_of fun dp un fr gd s Q E => pickAll K_S_ctrl.ne (P := fun c => K_S_ctrl.P (c.1) (c.2.1) (c.2.2.1) (c.2.2.2.1) (c.2.2.2.2.1) (c.2.2.2.2.2.1) (c.2.2.2.2.2.2.1) (c.2.2.2.2.2.2.2.1) (c.2.2.2.2.2.2.2.2.1) (c.2.2.2.2.2.2.2.2.2.1) (c.2.2.2.2.2.2.2.2.2.2)) K_S_ctrl.core (w, h, c, t, dp, un, fr, gd, s, Q, E) hS hc
namespace K_S_alt
def P (w : World) (h : Heap) (c : Nat) (t : Tok) (dp : Nat) (un : Nat) (fr : Option (List Env)) (gd : Option (List Code)) (s : Shared) (Q : Value → Shared → Prop) (E : Value → Shared → Prop) : Prop :=
  ∀ (hS : St w h) (hc : c < 256), SpecAt w 90 [.str ⟨#[c]⟩ t] 4 30 h (fun tl v => tl = [] ∧ ∃ t, v = .str ⟨#[128 + c % 128]⟩ t) dp un fr gd s Q E
theorem ne : Nonempty ((World) × (Heap) × (Nat) × (Tok) × (Nat) × (Nat) × (Option (List Env)) × (Option (List Code)) × (Shared) × (Value → Shared → Prop) × (Value → Shared → Prop)) := ⟨(w0, Classical.ofNonempty, Classical.ofNonempty, Classical.ofNonempty, Classical.ofNonempty, Classical.ofNonempty, Classical.ofNonempty, Classical.ofNonempty, {}, Classical.ofNonempty, Classical.ofNonempty)⟩
noncomputable def κ : (World) × (Heap) × (Nat) × (Tok) × (Nat) × (Nat) × (Option (List Env)) × (Option (List Code)) × (Shared) × (Value → Shared → Prop) × (Value → Shared → Prop) := pick ne fun c => ¬ P (c.1) (c.2.1) (c.2.2.1) (c.2.2.2.1) (c.2.2.2.2.1) (c.2.2.2.2.2.1) (c.2.2.2.2.2.2.1) (c.2.2.2.2.2.2.2.1) (c.2.2.2.2.2.2.2.2.1) (c.2.2.2.2.2.2.2.2.2.1) (c.2.2.2.2.2.2.2.2.2.2)
noncomputable def w : World := κ.1
noncomputable def h : Heap := κ.2.1
noncomputable def c : Nat := κ.2.2.1
noncomputable def t : Tok := κ.2.2.2.1
noncomputable def dp : Nat := κ.2.2.2.2.1
noncomputable def un : Nat := κ.2.2.2.2.2.1
noncomputable def fr : Option (List Env) := κ.2.2.2.2.2.2.1
noncomputable def gd : Option (List Code) := κ.2.2.2.2.2.2.2.1
noncomputable def s : Shared := κ.2.2.2.2.2.2.2.2.1
noncomputable def Q : Value → Shared → Prop := κ.2.2.2.2.2.2.2.2.2.1
noncomputable def E : Value → Shared → Prop := κ.2.2.2.2.2.2.2.2.2.2
noncomputable def L : Addr := Heap.objs h |>.size
noncomputable def h₁ : Heap := (HT (hd.heap_39 w.params) 90 w h L dp un fr gd s Q [(Str.ofString "c", .str ⟨#[c]⟩ t)]).1
noncomputable def tk : Nat := (HT (hd.heap_39 w.params) 90 w h L dp un fr gd s Q [(Str.ofString "c", .str ⟨#[c]⟩ t)]).2
theorem core : P w h c t dp un fr gd s Q E := by
  intro hS hc hdp hun hh hQ
  w_top off
  refine fillG ?_
  k_fill
  intro _ _
  obtain ⟨X, T⟩ := St.top hS
  refine' enterE (K := hd.heap_39 w.params) hdp hh L rfl X T [(Str.ofString "c", .str ⟨#[c]⟩ t)] ?k3 ?k4 (by lia) ?k6 ?k7 ?k8 ?k9 ?k10 ?k11 h₁ rfl tk rfl ?_
  case k3 => k_is
  case k4 => k_is
  case k6 => exact rfl
  case k7 => decide
  case k8 => exact locs rfl
  case k9 => exact rfl
  case k10 => exact rfl
  case k11 => exact rfl
  intro F N
  have hL : L = h.objs.size := rfl
  try dsimp only
  k_steps
  repeat' ((first | ((with_reducible refine Stop.bui "chr" ?_); first | (refine chr_val (bitAnd31 _) (by first | exact le31 _ | lia) ?_) | (refine chr_val (bitOr128 _ (by assumption)) (by first | exact le128 _ | lia) ?_) | (refine chr_val rfl (by lia) ?_)) | ((with_reducible refine Stop.ref ?_); (first | refine use_spec1 (S_ctoi _ _ _ _ stK) rfl (by first | exact bud (by assumption) rfl | exact bud0 (by assumption) rfl) (by first | exact bud (by assumption) rfl | exact bud0 (by assumption) rfl) (by assumption) (by assumption) ?_); intro _ _ _ _ _)); (try k_steps))
  all_goals exact hQ _ [] _ _ (kp_of (by assumption)) Fsh.nil ⟨rfl, _, rfl⟩
end K_S_alt
theorem S_alt (w : World) (h : Heap) (c : Nat) (t : Tok) (hS : St w h) (hc : c < 256) : Spec w 90 [.str ⟨#[c]⟩ t] 4 30 h (fun tl v => tl = [] ∧ ∃ t, v = .str ⟨#[128 + c % 128]⟩ t) :=
  spec_of fun dp un fr gd s Q E => pickAll K_S_alt.ne (P := fun c => K_S_alt.P (c.1) (c.2.1) (c.2.2.1) (c.2.2.2.1) (c.2.2.2.2.1) (c.2.2.2.2.2.1) (c.2.2.2.2.2.2.1) (c.2.2.2.2.2.2.2.1) (c.2.2.2.2.2.2.2.2.1) (c.2.2.2.2.2.2.2.2.2.1) (c.2.2.2.2.2.2.2.2.2.2)) K_S_alt.core (w, h, c, t, dp, un, fr, gd, s, Q, E) hS hc
namespace K_S_sent
def P (w : World) (h : Heap) (c : Nat) (size : Nat) (t : Tok) (t' : Tok) (dp : Nat) (un : Nat) (fr : Option (List Env)) (gd : Option (List Code)) (s : Shared) (Q : Value → Shared → Prop) (E : Value → Shared → Prop) : Prop :=
  ∀ (hS : St w h) (hc : c < 256), SpecAt w 111 [.int c t, .int size t'] 6 40 h (fun tl v => tl = [] ∧ ∃ t, v = .str ⟨#[sent size c]⟩ t) dp un fr gd s Q E
theorem ne : Nonempty ((World) × (Heap) × (Nat) × (Nat) × (Tok) × (Tok) × (Nat) × (Nat) × (Option (List Env)) × (Option (List Code)) × (Shared) × (Value → Shared → Prop) × (Value → Shared → Prop)) := ⟨(w0, Classical.ofNonempty, Classical.ofNonempty, Classical.ofNonempty, Classical.ofNonempty, Classical.ofNonempty, Classical.ofNonempty, Classical.ofNonempty, Classical.ofNonempty, Classical.ofNonempty, {}, Classical.ofNonempty, Classical.ofNonempty)⟩
noncomputable def κ : (World) × (Heap) × (Nat) × (Nat) × (Tok) × (Tok) × (Nat) × (Nat) × (Option (List Env)) × (Option (List Code)) × (Shared) × (Value → Shared → Prop) × (Value → Shared → Prop) := pick ne fun c => ¬ P (c.1) (c.2.1) (c.2.2.1) (c.2.2.2.1) (c.2.2.2.2.1) (c.2.2.2.2.2.1) (c.2.2.2.2.2.2.1) (c.2.2.2.2.2.2.2.1) (c.2.2.2.2.2.2.2.2.1) (c.2.2.2.2.2.2.2.2.2.1) (c.2.2.2.2.2.2.2.2.2.2.1) (c.2.2.2.2.2.2.2.2.2.2.2.1) (c.2.2.2.2.2.2.2.2.2.2.2.2)
noncomputable def w : World := κ.1
noncomputable def h : Heap := κ.2.1
noncomputable def c : Nat := κ.2.2.1
noncomputable def size : Nat := κ.2.2.2.1
noncomputable def t : Tok := κ.2.2.2.2.1
noncomputable def t' : Tok := κ.2.2.2.2.2.1
noncomputable def dp : Nat := κ.2.2.2.2.2.2.1
noncomputable def un : Nat := κ.2.2.2.2.2.2.2.1
noncomputable def fr : Option (List Env) := κ.2.2.2.2.2.2.2.2.1
noncomputable def gd : Option (List Code) := κ.2.2.2.2.2.2.2.2.2.1
noncomputable def s : Shared := κ.2.2.2.2.2.2.2.2.2.2.1
noncomputable def Q : Value → Shared → Prop := κ.2.2.2.2.2.2.2.2.2.2.2.1
noncomputable def E : Value → Shared → Prop := κ.2.2.2.2.2.2.2.2.2.2.2.2
noncomputable def L : Addr := Heap.objs h |>.size
noncomputable def h₁ : Heap := (HT (hd.heap_39 w.params) 111 w h L dp un fr gd s Q [(Str.ofString "code", .int c t), (Str.ofString "size", .int size t')]).1
noncomputable def tk : Nat := (HT (hd.heap_39 w.params) 111 w h L dp un fr gd s Q [(Str.ofString "code", .int c t), (Str.ofString "size", .int size t')]).2
theorem core : P w h c size t t' dp un fr gd s Q E := by
  intro hS hc hdp hun hh hQ
  w_top off
  refine fillG ?_
  k_fill
  intro _ _
  obtain ⟨X, T⟩ := St.top hS
  refine' enterE (K := hd.heap_39 w.params) hdp hh L rfl X T [(Str.ofString "code", .int c t), (Str.ofString "size", .int size t')] ?k3 ?k4 (by lia) ?k6 ?k7 ?k8 ?k9 ?k10 ?k11 h₁ rfl tk rfl ?_
  case k3 => k_is
  case k4 => k_is
  case k6 => exact rfl
  case k7 => decide
  case k8 => exact locs rfl
  case k9 => exact rfl
  case k10 => exact rfl
  case k11 => exact rfl
  intro F N
  have hL : L = h.objs.size := rfl
  try dsimp only
  k_steps
  repeat' ((first | ((with_reducible refine Stop.bui "chr" ?_); first | (refine chr_val (bitAnd31 _) (by first | exact le31 _ | lia) ?_) | (refine chr_val (bitOr128 _ (by assumption)) (by first | exact le128 _ | lia) ?_) | (refine chr_val rfl (by lia) ?_)) | ((with_reducible refine Stop.ref ?_); (first | refine use_spec1 (S_ctrl _ _ _ _ stK (by assumption)) rfl (by first | exact bud (by assumption) rfl | exact bud0 (by assumption) rfl) (by first | exact bud (by assumption) rfl | exact bud0 (by assumption) rfl) (by assumption) (by assumption) ?_ | refine use_spec1 (S_alt _ _ _ _ stK (by assumption)) rfl (by first | exact bud (by assumption) rfl | exact bud0 (by assumption) rfl) (by first | exact bud (by assumption) rfl | exact bud0 (by assumption) rfl) (by assumption) (by assumption) ?_); intro _ _ _ _ _)); (try k_steps))
  · exact hQ _ [] _ _ (kp_of (by assumption)) Fsh.nil ⟨rfl, _, by rw [sent, if_pos (by lia)]⟩
  · exact hQ _ [] _ _ (kp_of (by assumption)) Fsh.nil ⟨rfl, _, by rw [sent, if_neg (by lia)]⟩
end K_S_sent
theorem S_sent (w : World) (h : Heap) (c size : Nat) (t t' : Tok) (hS : St w h) (hc : c < 256) : Spec w 111 [.int c t, .int size t'] 6 40 h (fun tl v => tl = [] ∧ ∃ t, v = .str ⟨#[sent size c]⟩ t) :=
  spec_of fun dp un fr gd s Q E => pickAll K_S_sent.ne (P := fun c => K_S_sent.P (c.1) (c.2.1) (c.2.2.1) (c.2.2.2.1) (c.2.2.2.2.1) (c.2.2.2.2.2.1) (c.2.2.2.2.2.2.1) (c.2.2.2.2.2.2.2.1) (c.2.2.2.2.2.2.2.2.1) (c.2.2.2.2.2.2.2.2.2.1) (c.2.2.2.2.2.2.2.2.2.2.1) (c.2.2.2.2.2.2.2.2.2.2.2.1) (c.2.2.2.2.2.2.2.2.2.2.2.2)) K_S_sent.core (w, h, c, size, t, t', dp, un, fr, gd, s, Q, E) hS hc
end Mine
end
section
open PySem PySem.W PyProof.Rows PySem.Calls
open PyProof.Rows.LCg (NsObj ns_obj lst lst_snoc SrcAt)
set_option Elab.async false
set_option maxRecDepth 100000
set_option maxHeartbeats 4000000
namespace Mine
section
variable {prog : Program} {w : World} {A : Around} {E : Value → Shared → Prop} {s : Shared} {a b : Addr} {xs : List Value} {Q : Value → Shared → Prop}
theorem ne_nil (ha : s.heap.IsList a xs.toArray) (hb : s.heap.IsList b #[]) (hu : A.units < cLine) (h : Q (.bool (!xs.isEmpty)) s) : wpAny (model prog w) A (compareOp .NotEq (.ref a) (.ref b)) Q E s := by
  refine cmp_ofNotEq ?_
  cases xs with
  | nil => exact PySem.SeqAt.RcNeAt.lists (e := fun _ => true) ha hb rfl hu (fun j h1 _ => absurd h1 (Nat.not_lt_zero j)) prog w E Q h
  | cons x r => exact PySem.SeqAt.RcNeAt.lists_lengths ha hb (by simp) hu prog w E Q h
theorem eq_nil (ha : s.heap.IsList a xs.toArray) (hb : s.heap.IsList b #[]) (hu : A.units < cLine) (h : Q (.bool xs.isEmpty) s) : wpAny (model prog w) A (compareOp .Eq (.ref a) (.ref b)) Q E s := by
  refine cmp_ofEq ?_
  cases xs with
  | nil => exact PySem.SeqAt.RcAt.lists (e := fun _ => true) ha hb rfl hu (fun j h1 _ => absurd h1 (Nat.not_lt_zero j)) prog w E Q h
  | cons x r => exact PySem.SeqAt.RcAt.lists_lengths ha hb (by simp) hu prog w E Q h
end
theorem filter_take_succ {α : Type} {p : α → Bool} {l : List α} {i : Nat} {e : α} (h : l[i]? = some e) : ((l.take (i + 1)).filter p).length = ((l.take i).filter p).length + (if p e = true then 1 else 0) := by
  rw [List.take_add_one, h]
  simp only [Option.toList_some, List.filter_append, List.length_append, List.filter_cons, List.filter_nil]
  split <;> rfl
theorem str1_lt {a b : Nat} : (({ cps := #[a] } : Str).cps.toList < ({ cps := #[b] } : Str).cps.toList) ↔ a < b := by
  show [a] < [b] ↔ a < b
  simp [List.cons_lt_cons_iff]
def All2 {α β : Type} (R : α → β → Prop) (xs : List α) (ys : List β) : Prop := xs.length = ys.length ∧ ∀ (i : Nat) (x : α) (y : β), xs[i]? = some x → ys[i]? = some y → R x y
theorem All2.get {α β : Type} {R : α → β → Prop} {xs : List α} {ys : List β} (h : All2 R xs ys) {i : Nat} {x : α} (hx : xs[i]? = some x) : ∃ y, ys[i]? = some y ∧ R x y := by
  obtain ⟨hlt, _⟩ := List.getElem?_eq_some_iff.mp hx
  exact ⟨ys[i]'(h.1 ▸ hlt), List.getElem?_eq_getElem _, h.2 i _ _ hx (List.getElem?_eq_getElem _)⟩
theorem All2.nil {α β : Type} {R : α → β → Prop} : All2 R ([] : List α) ([] : List β) := ⟨rfl, fun i x y h => by simp at h⟩
theorem All2.snoc {α β : Type} {R : α → β → Prop} {xs : List α} {ys : List β} {x : α} {y : β} (h : All2 R xs ys) (r : R x y) : All2 R (xs ++ [x]) (ys ++ [y]) := by
  refine ⟨by rw [List.length_append, List.length_append, h.1]; rfl, fun i a b ha hb => ?_⟩
  rw [List.getElem?_append] at ha hb
  rw [← h.1] at hb
  split at ha
  · rename_i hi; rw [if_pos hi] at hb; exact h.2 i a b ha hb
  · rename_i hi; rw [if_neg hi] at hb
    cases hj : i - xs.length with
    | zero =>
      rw [hj] at ha hb
      obtain rfl : x = a := Option.some.inj ha
      obtain rfl : y = b := Option.some.inj hb
      exact r
    | succ n => rw [hj] at ha; exact absurd (show (none : Option α) = some a from ha) nofun
theorem All2.mono {α β : Type} {R R' : α → β → Prop} {xs : List α} {ys : List β} (h : All2 R xs ys) (k : ∀ x y, R x y → R' x y) : All2 R' xs ys := ⟨h.1, fun i x y hx hy => k _ _ (h.2 i x y hx hy)⟩
theorem islist_keeps {h h' : Heap} {l : Addr} {its : Array Value} (x : h.IsList l its) (k : Kp h h') : h'.IsList l its := by obtain ⟨o, e, r⟩ := x; exact ⟨o, k _ _ e, r⟩
theorem istup_keeps {h h' : Heap} {l : Addr} {its : Array Value} (x : IsTup h l its) (k : Kp h h') : IsTup h' l its := by obtain ⟨o, e, r⟩ := x; exact ⟨o, k _ _ e, r⟩
/-- a pair of signs, as a tuple -/
def EndAt (h : Heap) (v : Value) (e : Nat × Nat) : Prop := ∃ p t t', v = .ref p ∧ IsTup h p #[.str ⟨#[e.1]⟩ t, .str ⟨#[e.2]⟩ t']
def inEnds (ends : List (Nat × Nat)) (c : Nat) : Bool := ends.any fun e => decide (e.1 ≤ c) && decide (c ≤ e.2)
theorem inEnds_of {ends : List (Nat × Nat)} {c : Nat} {ys : List Value} (hy : ys.length = (ends.filter fun e => decide (e.1 ≤ c) && decide (c ≤ e.2)).length) : (!ys.isEmpty) = inEnds ends c := by
  unfold inEnds
  rw [Bool.eq_iff_iff, List.any_eq_true]
  constructor
  · intro h
    have : 0 < ys.length := by cases ys with | nil => simp at h | cons _ _ => simp
    rw [hy] at this
    obtain ⟨e, he⟩ := List.exists_mem_of_length_pos this
    exact ⟨e, (List.mem_filter.mp he).1, (List.mem_filter.mp he).2⟩
  · rintro ⟨e, he, hp⟩
    have : 0 < ys.length := by rw [hy]; exact List.length_pos_of_mem (List.mem_filter.mpr ⟨he, hp⟩)
    cases ys with | nil => simp at this | cons _ _ => rfl
theorem CEndI.mk {h₀ : Heap} {L : Addr} {m : Str → Option Value} {C D I : Addr} {oC oI : Obj} {ys : List Value} {s₁ : Shared} {P : List (Addr × Obj) → Prop} {h' : Heap} {tk' : Nat} {news' : List (Addr × Obj)} {mC : Str → Option Value}
    (F : Fr h₀ L h' m) (N : News h₀ L h' ((C, oC) :: (D, lst ys) :: (I, oI) :: news')) (off : ∀ p ∈ (I, oI) :: news', p.1 ≠ C ∧ p.1 ≠ D) (cd : C ≠ D) (ns : NsObj oC mC) (offI : ∀ p ∈ news', p.1 ≠ I) (hP : P news') :
    CEndI h₀ L m C D I oI ys s₁ P { s₁ with heap := h', toks := tk' } := ⟨h', tk', oC, news', rfl, ⟨F, N, off, cd, ⟨mC, ns⟩⟩, offI, hP⟩
/-- what an item takes -/
def fitsP (it : It) (size one : Nat) : Bool :=
  match it with
  | .star | .any => true
  | .sign c => decide (one = c % size)
  | .br neg a b c => ((decide (min (a % size) (b % size) ≤ one) && decide (one ≤ max (a % size) (b % size))) || decide (one = c % size)) != neg
def codesOf (x : Int) : List Nat :=
  if x.fmod 8 = 0 then List.replicate ((x.fdiv 8).fmod 3).toNat ((x.fdiv 8 + 32 * x.fdiv 134217728 + x.fdiv 8589934592).fmod 256).toNat
  else if (x.fdiv 1073741824).fmod 8 < 7 then [((x.fdiv 8 + 32 * x.fdiv 134217728 + x.fdiv 8589934592).fmod 256).toNat] else []
/-- a fresh list of ints -/
def IntsIn (tl : List (Addr × Obj)) (v : Value) (ns : List Int) : Prop := ∃ a vs n, v = .ref a ∧ (a, W.listOf (List.toArray vs) n) ∈ tl ∧ IntsAre vs ns
theorem natmod (c size : Nat) : (c : Int).fmod (size : Int) = ((c % size : Nat) : Int) := by
  rw [Int.fmod_eq_emod_of_nonneg _ (by lia)]; lia
theorem perm1 {n : List Int} {c size : Nat} (h : n.Perm (List.map (fun k => k.fmod (size : Int)) [(c : Int)])) : n = [((c % size : Nat) : Int)] := by
  rw [← natmod]; exact List.perm_singleton.mp h
theorem perm2 {n : List Int} {a b size : Nat} (h : n.Perm (List.map (fun k => k.fmod (size : Int)) [(a : Int), (b : Int)])) (o : n.Pairwise (· ≤ ·)) : n = [((min (a % size) (b % size) : Nat) : Int), ((max (a % size) (b % size) : Nat) : Int)] := by
  simp only [List.map_cons, List.map_nil, natmod] at h
  have hl := h.length_eq
  obtain ⟨x, y, rfl⟩ : ∃ x y, n = [x, y] := by
    cases n with
    | nil => cases hl
    | cons x n => cases n with
      | nil => cases hl
      | cons y n => cases n with
        | nil => exact ⟨_, _, rfl⟩
        | cons _ _ => cases hl
  · have hxy : x ≤ y := by simpa using o
    have hx : x = ((a % size : Nat) : Int) ∨ x = ((b % size : Nat) : Int) := by simpa using h.subset (List.mem_cons_self)
    rcases hx with rfl | rfl
    · have e : y = ((b % size : Nat) : Int) := by simpa using List.perm_singleton.mp ((List.perm_cons _).mp h)
      subst e
      have h1 : min (a % size) (b % size) = a % size := Nat.min_eq_left (Int.ofNat_le.mp hxy)
      have h2 : max (a % size) (b % size) = b % size := Nat.max_eq_right (Int.ofNat_le.mp hxy)
      rw [h1, h2]
    · have e : y = ((a % size : Nat) : Int) := by simpa using List.perm_singleton.mp ((List.perm_cons _).mp (h.trans (List.Perm.swap _ _ _)))
      subst e
      have h1 : min (a % size) (b % size) = b % size := Nat.min_eq_right (Int.ofNat_le.mp hxy)
      have h2 : max (a % size) (b % size) = a % size := Nat.max_eq_left (Int.ofNat_le.mp hxy)
      rw [h1, h2]
end Mine
end
section
open PySem PySem.W PyProof.Rows PySem.Calls
open PyProof.Rows.LCg (NsObj ns_obj lst lst_snoc SrcAt)
set_option Elab.async false
set_option maxRecDepth 100000
set_option maxHeartbeats 4000000
namespace Mine
section
variable {prog : Program} {w : World} {A : Around} {s : Shared} {env : Env} {h₀ : Heap} {L : Addr} {m : Str → Option Value}

/-- where a turn of a loop over a list ends -/
def FEnd (h₀ : Heap) (L I : Addr) (oI : Obj) (s₁ : Shared) (P : (Str → Option Value) → List (Addr × Obj) → Prop) (s' : Shared) : Prop :=
  ∃ h' tk' m' news', s' = { s₁ with heap := h', toks := tk' } ∧ Fr h₀ L h' m' ∧ News h₀ L h' ((I, oI) :: news') ∧ (∀ p ∈ news', p.1 ≠ I) ∧ P m' news'
def FPost (h₀ : Heap) (L I : Addr) (oI : Obj) (s₁ : Shared) (Q : Flow → Shared → Prop) (P : (Str → Option Value) → List (Addr × Obj) → Prop) (f : Flow) (s' : Shared) : Prop :=
  match f with
  | .ret v => Q (.ret v) s'
  | .brk => Q .next s'
  | _ => FEnd h₀ L I oI s₁ P s'
theorem FEnd.mk {I : Addr} {oI : Obj} {s₁ : Shared} {P : (Str → Option Value) → List (Addr × Obj) → Prop} {h' : Heap} {tk' : Nat} {m' : Str → Option Value} {all news' : List (Addr × Obj)}
    (F : Fr h₀ L h' m') (N : News h₀ L h' all) (hsub : ∀ p ∈ (I, oI) :: news', p ∈ all) (off : ∀ p ∈ news', p.1 ≠ I) (hP : P m' news') : FEnd h₀ L I oI s₁ P { s₁ with heap := h', toks := tk' } :=
  ⟨h', tk', m', news', rfl, F, fun p hp => N p (hsub p hp), off, hP⟩

def K_my_for.P (target : Expr) (iter : Expr) (body : List Stmt) (pos : Pos) (Q : Flow → Shared → Prop) : Prop :=
  ∀ (_F₀ : Fr h₀ L s.heap m) (hh : A.handled = none) (hs : ∀ x, foldedSetIterable iter env x = pure x) (hgo : ∀ (l I : Addr) (i : Nat) (v : Value) (s : Shared) (Q : Unit → Shared → Prop), s.heap.IsListIter I l i → Q () s → wpAny (model prog w) A (letOwnedTupleGo target (.ref I) v) Q FF s) (h : wpAny (model prog w) A (eval iter env) (fun xv s₁ => ∃ (l : Addr) (vs : List Value) (J : Nat → (Str → Option Value) → List (Addr × Obj) → Prop) (news : List (Addr × Obj)),
      xv = .ref l ∧ Fr h₀ L s₁.heap m ∧ News h₀ L s₁.heap news ∧ J 0 m news ∧ (∀ i m news, J i m news → SrcAt h₀ l vs.toArray news) ∧
      (∀ i v m₁ news₁ h tk I oI, vs[i]? = some v → J i m₁ news₁ → Fr h₀ L h m₁ → News h₀ L h ((I, oI) :: news₁) → (∀ p ∈ news₁, p.1 ≠ I) →
        wpAny (model prog w) A (assign target env v) (fun _ s₂ => wpAny (model prog w) A (execs body env) (FPost h₀ L I oI s₁ Q (J (i + 1))) FF s₂) FF { s₁ with heap := h, toks := tk }) ∧
      (∀ m₁ news₁ h tk, J vs.length m₁ news₁ → Fr h₀ L h m₁ → News h₀ L h news₁ → Q .next { s₁ with heap := h, toks := tk })) FF s), wpAny (model prog w) A (exec (.For target iter body [] pos) env) Q FF s
end
namespace K_my_for
theorem ne : Nonempty ((Program) × (World) × (Around) × (Shared) × (Env) × (Heap) × (Addr) × (Str → Option Value) × (Expr) × (Expr) × (List Stmt) × (Pos) × (Flow → Shared → Prop)) := ⟨(Classical.ofNonempty, w0, ⟨none, 0, none, none, 0⟩, {}, Classical.ofNonempty, Classical.ofNonempty, Classical.ofNonempty, Classical.ofNonempty, Classical.ofNonempty, Classical.ofNonempty, Classical.ofNonempty, Classical.ofNonempty, Classical.ofNonempty)⟩
noncomputable def κ : (Program) × (World) × (Around) × (Shared) × (Env) × (Heap) × (Addr) × (Str → Option Value) × (Expr) × (Expr) × (List Stmt) × (Pos) × (Flow → Shared → Prop) := pick ne fun c => ¬ @P (c.1) (c.2.1) (c.2.2.1) (c.2.2.2.1) (c.2.2.2.2.1) (c.2.2.2.2.2.1) (c.2.2.2.2.2.2.1) (c.2.2.2.2.2.2.2.1) (c.2.2.2.2.2.2.2.2.1) (c.2.2.2.2.2.2.2.2.2.1) (c.2.2.2.2.2.2.2.2.2.2.1) (c.2.2.2.2.2.2.2.2.2.2.2.1) (c.2.2.2.2.2.2.2.2.2.2.2.2)
noncomputable def prog : Program := κ.1
noncomputable def w : World := κ.2.1
noncomputable def A : Around := κ.2.2.1
noncomputable def s : Shared := κ.2.2.2.1
noncomputable def env : Env := κ.2.2.2.2.1
noncomputable def h₀ : Heap := κ.2.2.2.2.2.1
noncomputable def L : Addr := κ.2.2.2.2.2.2.1
noncomputable def m : Str → Option Value := κ.2.2.2.2.2.2.2.1
noncomputable def target : Expr := κ.2.2.2.2.2.2.2.2.1
noncomputable def iter : Expr := κ.2.2.2.2.2.2.2.2.2.1
noncomputable def body : List Stmt := κ.2.2.2.2.2.2.2.2.2.2.1
noncomputable def pos : Pos := κ.2.2.2.2.2.2.2.2.2.2.2.1
noncomputable def Q : Flow → Shared → Prop := κ.2.2.2.2.2.2.2.2.2.2.2.2
theorem core : @P prog w A s env h₀ L m target iter body pos Q := by
  intro _F₀ hh hs hgo h
  refine wpAny_For (wpAny_mono h (fun xv s₁ h₁ => ?_) fun _ _ e => e) hs
  obtain ⟨l, vs, J, news, rfl, F, N, hJ, hsrc, turn, fin⟩ := h₁
  have hl := (hsrc _ _ _ hJ).list F.keep N
  refine wpAny_pyIter_list hl ?_
  have up : Kp s₁.heap (s₁.heap.push { cls := .type "list_iterator", data := .fields #[.ref l, .int 0 0] }) := fun b o e => Heap.get?_push_of_some _ e
  have hlt : l < s₁.heap.objs.size := by obtain ⟨_, e, _⟩ := hl; exact Heap.lt_size e
  have hgo' : ∀ (l I : Addr) (i : Nat) (v : Value) (s : Shared) (Q : Unit → Shared → Prop) (E : Value → Shared → Prop), s.heap.IsListIter I l i → Q () s → wpAny (model prog w) A (letOwnedTupleGo target (.ref I) v) Q E s := fun l I i v s Q E a b => wpAny_noRaise (hgo l I i v s Q a b)
  let Ob : Nat → Obj → Prop := fun i oI => oI.cls = .type "list_iterator" ∧ oI.data = .fields #[.ref l, .int i 0]
  refine codeAny_forLoop_any (fun k s' => ∃ h' tk m' nw i oI, s' = { s₁ with heap := h', toks := tk } ∧ k = vs.length + 1 - i ∧ i ≤ vs.length ∧ Fr h₀ L h' m' ∧ News h₀ L h' ((s₁.heap.objs.size, oI) :: nw) ∧ (∀ p ∈ nw, p.1 ≠ s₁.heap.objs.size) ∧ Ob i oI ∧ J i m' nw) ?_ (vs.length + 1)
    ⟨_, s₁.toks, m, news, 0, { cls := .type "list_iterator", data := .fields #[.ref l, .int 0 0] }, rfl, rfl, Nat.zero_le _, fr_after F up, fun p hp => ?_, fun p hp => Nat.ne_of_lt (Heap.lt_size (N p hp).1), ⟨rfl, rfl⟩, hJ⟩
  · intro k s' hq1
    (try k_fold)
    obtain ⟨h', tk', m', nw, i, oI, rfl, rfl, hi, F', N', hoff, hob, hJ'⟩ := hq1
    have zI := N' _ List.mem_cons_self
    have Nw : News h₀ L h' nw := fun p hp => N' p (List.mem_cons_of_mem _ hp)
    have hl' := (hsrc _ _ _ hJ').list F'.keep Nw
    have hit : h'.IsListIter s₁.heap.objs.size l i := ⟨oI, zI.1, hob.1, hob.2⟩
    by_cases hlt' : i < vs.length
    · refine wpAny_pyNext_list_item hit hl' (x := vs[i]) (by simp [hlt']) fun h2 hit2 hs2 => ?_
      obtain ⟨oI2, e2, hc2, hd2⟩ := id hit2
      refine hgo' l _ (i + 1) vs[i] _ _ _ hit2 ?_
      have N2 : News h₀ L h2 ((s₁.heap.objs.size, oI2) :: nw) := fun p hp => by
        rcases List.mem_cons.mp hp with rfl | hp
        · exact ⟨e2, zI.2⟩
        · exact ⟨(hs2.2 _ (hoff p hp)).trans (Nw p hp).1, (Nw p hp).2⟩
      refine wpAny_noRaise (wpAny_mono (turn i vs[i] m' nw h2 tk' _ oI2 (by simp [hlt']) hJ' (F'.change hs2 zI.2.1 zI.2.2) N2 hoff) (fun _ s3 h3 => ?_) fun _ _ e => e)
      refine wpAny_noRaise (wpAny_mono h3 (fun f s4 h4 => ?_) fun _ _ e => e)
      have step : FEnd h₀ L s₁.heap.objs.size oI2 s₁ (J (i + 1)) s4 → ∃ k, k < vs.length + 1 - i ∧ ∃ h' tk m' nw i oI, s4 = { s₁ with heap := h', toks := tk } ∧ k = vs.length + 1 - i ∧ i ≤ vs.length ∧ Fr h₀ L h' m' ∧ News h₀ L h' ((s₁.heap.objs.size, oI) :: nw) ∧ (∀ p ∈ nw, p.1 ≠ s₁.heap.objs.size) ∧ Ob i oI ∧ J i m' nw := by
        intro hq2
        (try k_fold)
        obtain ⟨h5, tk5, m5, nw5, rfl, F5, N5, off5, hJ5⟩ := hq2
        exact ⟨vs.length + 1 - (i + 1), decK (Nat.le_of_succ_le (by assumption)) (by decide), h5, tk5, m5, nw5, i + 1, oI2, rfl, rfl, hlt', F5, N5, off5, ⟨hc2, hd2⟩, hJ5⟩
      cases f with
      | next => exact step h4
      | cont => exact step h4
      | brk => exact h4
      | ret v => exact h4
    · obtain rfl : i = vs.length := Nat.le_antisymm hi (Nat.not_lt.mp hlt')
      refine wpAny_pyNext_list_end hh hit hl' (by simp) fun h2 he2 => ?_
      have z : ∀ b o, b ≠ s₁.heap.objs.size → h'.get? b = some o → h2.get? b = some o := fun b o hb e => he2 b o hb e
      refine wpAny_execs_nil (fin m' nw h2 tk' hJ' ⟨F'.ns.at' fun o e => z _ o (Ne.symm zI.2.1) e, fun b o e => z b o (fun q => by rw [q, zI.2.2] at e; cases e) (F'.keep b o e), F'.above⟩ fun p hp => ⟨z _ _ (hoff p hp) (Nw p hp).1, (Nw p hp).2⟩)
  · rcases List.mem_cons.mp hp with rfl | hp
    · exact ⟨Heap.get?_push_size _ rfl, Nat.ne_of_gt F.ns.lt, next_is_new F⟩
    · exact ⟨up _ _ (N p hp).1, (N p hp).2⟩
end K_my_for
section
variable {prog : Program} {w : World} {A : Around} {s : Shared} {env : Env} {h₀ : Heap} {L : Addr} {m : Str → Option Value}
theorem my_for {target iter : Expr} {body : List Stmt} {pos : Pos} {Q : Flow → Shared → Prop} (_F₀ : Fr h₀ L s.heap m) (hh : A.handled = none)
    (hs : ∀ x, foldedSetIterable iter env x = pure x)
    (hgo : ∀ (l I : Addr) (i : Nat) (v : Value) (s : Shared) (Q : Unit → Shared → Prop), s.heap.IsListIter I l i → Q () s → wpAny (model prog w) A (letOwnedTupleGo target (.ref I) v) Q FF s)
    (h : wpAny (model prog w) A (eval iter env) (fun xv s₁ => ∃ (l : Addr) (vs : List Value) (J : Nat → (Str → Option Value) → List (Addr × Obj) → Prop) (news : List (Addr × Obj)),
      xv = .ref l ∧ Fr h₀ L s₁.heap m ∧ News h₀ L s₁.heap news ∧ J 0 m news ∧ (∀ i m news, J i m news → SrcAt h₀ l vs.toArray news) ∧
      (∀ i v m₁ news₁ h tk I oI, vs[i]? = some v → J i m₁ news₁ → Fr h₀ L h m₁ → News h₀ L h ((I, oI) :: news₁) → (∀ p ∈ news₁, p.1 ≠ I) →
        wpAny (model prog w) A (assign target env v) (fun _ s₂ => wpAny (model prog w) A (execs body env) (FPost h₀ L I oI s₁ Q (J (i + 1))) FF s₂) FF { s₁ with heap := h, toks := tk }) ∧
      (∀ m₁ news₁ h tk, J vs.length m₁ news₁ → Fr h₀ L h m₁ → News h₀ L h news₁ → Q .next { s₁ with heap := h, toks := tk })) FF s) :
    wpAny (model prog w) A (exec (.For target iter body [] pos) env) Q FF s :=
  pickAll K_my_for.ne (P := fun c => @K_my_for.P (c.1) (c.2.1) (c.2.2.1) (c.2.2.2.1) (c.2.2.2.2.1) (c.2.2.2.2.2.1) (c.2.2.2.2.2.2.1) (c.2.2.2.2.2.2.2.1) (c.2.2.2.2.2.2.2.2.1) (c.2.2.2.2.2.2.2.2.2.1) (c.2.2.2.2.2.2.2.2.2.2.1) (c.2.2.2.2.2.2.2.2.2.2.2.1) (c.2.2.2.2.2.2.2.2.2.2.2.2)) K_my_for.core (prog, w, A, s, env, h₀, L, m, target, iter, body, pos, Q) _F₀ hh hs hgo h
/-- where a turn of a while ends -/
def WEnd (h₀ : Heap) (L : Addr) (s : Shared) (J : Nat → (Str → Option Value) → List (Addr × Obj) → Prop) (n : Nat) (s' : Shared) : Prop :=
  ∃ h' tk' m' news' n', s' = { s with heap := h', toks := tk' } ∧ Fr h₀ L h' m' ∧ News h₀ L h' news' ∧ n' < n ∧ J n' m' news'
def WPost (h₀ : Heap) (L : Addr) (s : Shared) (Q : Flow → Shared → Prop) (J : Nat → (Str → Option Value) → List (Addr × Obj) → Prop) (n : Nat) (f : Flow) (s' : Shared) : Prop :=
  match f with
  | .ret v => Q (.ret v) s'
  | .brk => Q .next s'
  | _ => WEnd h₀ L s J n s'
theorem WEnd.mk {J : Nat → (Str → Option Value) → List (Addr × Obj) → Prop} {n n' : Nat} {h' : Heap} {tk' : Nat} {m' : Str → Option Value} {news' : List (Addr × Obj)}
    (F : Fr h₀ L h' m') (N : News h₀ L h' news') (hn : n' < n) (hJ : J n' m' news') : WEnd h₀ L s J n { s with heap := h', toks := tk' } := ⟨h', tk', m', news', n', rfl, F, N, hn, hJ⟩
def K_my_while.P (test : Expr) (body : List Stmt) (pos : Pos) (news : List (Addr × Obj)) (Q : Flow → Shared → Prop) (J : Nat → (Str → Option Value) → List (Addr × Obj) → Prop) (n₀ : Nat) : Prop :=
  ∀ (F : Fr h₀ L s.heap m) (N : News h₀ L s.heap news) (hJ : J n₀ m news) (turn : ∀ n m₁ news₁ h₁ tk₁, J n m₁ news₁ → Fr h₀ L h₁ m₁ → News h₀ L h₁ news₁ →
      wpAny (model prog w) A (isTrue test env (eval test env)) (fun b s₂ => if b = true then wpAny (model prog w) A (execs body env) (WPost h₀ L s Q J n) FF s₂ else Q .next s₂) FF { s with heap := h₁, toks := tk₁ }), wpAny (model prog w) A (exec (.While test body [] pos) env) Q FF s
end
namespace K_my_while
theorem ne : Nonempty ((Program) × (World) × (Around) × (Shared) × (Env) × (Heap) × (Addr) × (Str → Option Value) × (Expr) × (List Stmt) × (Pos) × (List (Addr × Obj)) × (Flow → Shared → Prop) × (Nat → (Str → Option Value) → List (Addr × Obj) → Prop) × (Nat)) := ⟨(Classical.ofNonempty, w0, ⟨none, 0, none, none, 0⟩, {}, Classical.ofNonempty, Classical.ofNonempty, Classical.ofNonempty, Classical.ofNonempty, Classical.ofNonempty, Classical.ofNonempty, Classical.ofNonempty, Classical.ofNonempty, Classical.ofNonempty, Classical.ofNonempty, Classical.ofNonempty)⟩
noncomputable def κ : (Program) × (World) × (Around) × (Shared) × (Env) × (Heap) × (Addr) × (Str → Option Value) × (Expr) × (List Stmt) × (Pos) × (List (Addr × Obj)) × (Flow → Shared → Prop) × (Nat → (Str → Option Value) → List (Addr × Obj) → Prop) × (Nat) := pick ne fun c => ¬ @P (c.1) (c.2.1) (c.2.2.1) (c.2.2.2.1) (c.2.2.2.2.1) (c.2.2.2.2.2.1) (c.2.2.2.2.2.2.1) (c.2.2.2.2.2.2.2.1) (c.2.2.2.2.2.2.2.2.1) (c.2.2.2.2.2.2.2.2.2.1) (c.2.2.2.2.2.2.2.2.2.2.1) (c.2.2.2.2.2.2.2.2.2.2.2.1) (c.2.2.2.2.2.2.2.2.2.2.2.2.1) (c.2.2.2.2.2.2.2.2.2.2.2.2.2.1) (c.2.2.2.2.2.2.2.2.2.2.2.2.2.2)
noncomputable def prog : Program := κ.1
noncomputable def w : World := κ.2.1
noncomputable def A : Around := κ.2.2.1
noncomputable def s : Shared := κ.2.2.2.1
noncomputable def env : Env := κ.2.2.2.2.1
noncomputable def h₀ : Heap := κ.2.2.2.2.2.1
noncomputable def L : Addr := κ.2.2.2.2.2.2.1
noncomputable def m : Str → Option Value := κ.2.2.2.2.2.2.2.1
noncomputable def test : Expr := κ.2.2.2.2.2.2.2.2.1
noncomputable def body : List Stmt := κ.2.2.2.2.2.2.2.2.2.1
noncomputable def pos : Pos := κ.2.2.2.2.2.2.2.2.2.2.1
noncomputable def news : List (Addr × Obj) := κ.2.2.2.2.2.2.2.2.2.2.2.1
noncomputable def Q : Flow → Shared → Prop := κ.2.2.2.2.2.2.2.2.2.2.2.2.1
noncomputable def J : Nat → (Str → Option Value) → List (Addr × Obj) → Prop := κ.2.2.2.2.2.2.2.2.2.2.2.2.2.1
noncomputable def n₀ : Nat := κ.2.2.2.2.2.2.2.2.2.2.2.2.2.2
theorem core : @P prog w A s env h₀ L m test body pos news Q J n₀ := by
  intro F N hJ turn
  refine wpAny_While (codeAny_whileLoop (fun n s' => ∃ h₁ tk₁ m₁ news₁, s' = { s with heap := h₁, toks := tk₁ } ∧ Fr h₀ L h₁ m₁ ∧ News h₀ L h₁ news₁ ∧ J n m₁ news₁) ?_ n₀ ⟨s.heap, s.toks, m, news, rfl, F, N, hJ⟩)
  intro n s' hq3
  (try k_fold)
  obtain ⟨h₁, tk₁, m₁, news₁, rfl, F₁, N₁, J₁⟩ := hq3
  refine wpAny_noRaise (wpAny_mono (turn n m₁ news₁ h₁ tk₁ J₁ F₁ N₁) (fun b s₂ h₂ => ?_) fun _ _ e => e)
  cases b with
  | false =>
    simp only [Bool.false_eq_true, if_false] at h₂ ⊢
    exact wpAny_execs_nil h₂
  | true =>
    simp only [if_true] at h₂ ⊢
    refine wpAny_noRaise (wpAny_mono h₂ (fun f s₃ h₃ => ?_) fun _ _ e => e)
    have step : WEnd h₀ L s J n s₃ → ∃ k, k < n ∧ ∃ h₁ tk₁ m₁ news₁, s₃ = { s with heap := h₁, toks := tk₁ } ∧ Fr h₀ L h₁ m₁ ∧ News h₀ L h₁ news₁ ∧ J k m₁ news₁ := by
      intro hq4
      (try k_fold)
      obtain ⟨h', tk', m', news', n', rfl, F', N', hn, hJ'⟩ := hq4
      exact ⟨n', hn, h', tk', m', news', rfl, F', N', hJ'⟩
    cases f with
    | next => exact step h₃
    | cont => exact step h₃
    | brk => exact h₃
    | ret v => exact h₃
end K_my_while
section
variable {prog : Program} {w : World} {A : Around} {s : Shared} {env : Env} {h₀ : Heap} {L : Addr} {m : Str → Option Value}
theorem my_while {test : Expr} {body : List Stmt} {pos : Pos} {news : List (Addr × Obj)} {Q : Flow → Shared → Prop} (J : Nat → (Str → Option Value) → List (Addr × Obj) → Prop) {n₀ : Nat}
    (F : Fr h₀ L s.heap m) (N : News h₀ L s.heap news) (hJ : J n₀ m news)
    (turn : ∀ n m₁ news₁ h₁ tk₁, J n m₁ news₁ → Fr h₀ L h₁ m₁ → News h₀ L h₁ news₁ →
      wpAny (model prog w) A (isTrue test env (eval test env)) (fun b s₂ => if b = true then wpAny (model prog w) A (execs body env) (WPost h₀ L s Q J n) FF s₂ else Q .next s₂) FF { s with heap := h₁, toks := tk₁ }) :
    wpAny (model prog w) A (exec (.While test body [] pos) env) Q FF s :=
  pickAll K_my_while.ne (P := fun c => @K_my_while.P (c.1) (c.2.1) (c.2.2.1) (c.2.2.2.1) (c.2.2.2.2.1) (c.2.2.2.2.2.1) (c.2.2.2.2.2.2.1) (c.2.2.2.2.2.2.2.1) (c.2.2.2.2.2.2.2.2.1) (c.2.2.2.2.2.2.2.2.2.1) (c.2.2.2.2.2.2.2.2.2.2.1) (c.2.2.2.2.2.2.2.2.2.2.2.1) (c.2.2.2.2.2.2.2.2.2.2.2.2.1) (c.2.2.2.2.2.2.2.2.2.2.2.2.2.1) (c.2.2.2.2.2.2.2.2.2.2.2.2.2.2)) K_my_while.core (prog, w, A, s, env, h₀, L, m, test, body, pos, news, Q, J, n₀) F N hJ turn
end
end Mine
end
section
open PySem PySem.W PyProof.Rows PySem.Calls
open PyProof.Rows.LCg (NsObj ns_obj lst lst_snoc SrcAt)
set_option Elab.async false
set_option maxRecDepth 100000
set_option maxHeartbeats 4000000
namespace Mine
theorem sub_nil {α : Type} {all : List α} : ∀ p ∈ ([] : List α), p ∈ all := fun _ h => nomatch h
theorem sub_cons {α : Type} {a : α} {r all : List α} (h : a ∈ all) (k : ∀ p ∈ r, p ∈ all) : ∀ p ∈ a :: r, p ∈ all := fun p hp => by
  rcases List.mem_cons.mp hp with rfl | hp
  · exact h
  · exact k p hp
theorem off_nil {I : Addr} : ∀ p ∈ ([] : List (Addr × Obj)), p.1 ≠ I := fun _ h => nomatch h
theorem off_cons {I a : Nat} {o : Obj} {r : List (Addr × Obj)} (h : @Ne Nat a I) (k : ∀ p ∈ r, p.1 ≠ I) : ∀ p ∈ (a, o) :: r, p.1 ≠ I := fun p hp => by
  rcases List.mem_cons.mp hp with rfl | hp
  · exact h
  · exact k p hp
theorem fr_same {h₀ h : Heap} {L : Addr} {m m' : Str → Option Value} (F : Fr h₀ L h m) (e : ∀ y, m y = m' y) : Fr h₀ L h m' := (funext e : m = m') ▸ F
theorem if_twice {α : Type} {p : Prop} [Decidable p] {a b c : α} : (if p then a else if p then b else c) = if p then a else c := by
  by_cases h : p <;> simp [h]
theorem take_snoc {α : Type} {xs : List α} {i : Nat} {x : α} (h : xs[i]? = some x) : xs.take (i + 1) = xs.take i ++ [x] := by
  rw [List.take_add_one, h]; rfl
theorem pos_of_ne {l : List Int} (h : decide (l = []) = false) : 0 < l.length := List.length_pos_iff.mpr (by simpa using h)
theorem ints_at {vs : List Value} {ns : List Nat} (h : IntsAre vs (ns.map fun c : Nat => (c : Int))) {i : Nat} {v : Value} (hv : vs[i]? = some v) : ∃ (n : Nat) (t : Tok), v = .int (n : Int) t ∧ ns[i]? = some n := by
  obtain ⟨n, t, e, h2⟩ := h.at i v hv
  rw [List.getElem?_map] at h2
  cases q : ns[i]? with
  | none => rw [q] at h2; cases h2
  | some c => rw [q] at h2; cases h2; exact ⟨c, t, e, rfl⟩
theorem ints_snoc {vs : List Value} {ns : List Nat} (h : IntsAre vs (ns.map fun c : Nat => (c : Int))) {n : Nat} {t : Tok} : IntsAre (vs ++ [.int (n : Int) t]) ((ns ++ [n]).map fun c : Nat => (c : Int)) := by
  rw [List.map_append]
  generalize ns.map (fun c : Nat => (c : Int)) = l at h
  induction h with
  | nil => exact .cons _ _ .nil
  | cons n t _ ih => exact .cons n t ih
section
variable {prog : Program} {w : World} {A : Around} {E : Value → Shared → Prop} {s : Shared}
theorem item_nat {value slice : PySem.Expr} {l : Addr} {vs : List Value} {ns : List Nat} {k : Nat} {u : Tok} {Q : Value → Shared → Prop} (hl : s.heap.IsList l vs.toArray) (hi : IntsAre vs (ns.map fun c : Nat => (c : Int)))
    (h1 : k < ns.length) (hfit : k < 2 ^ 63) (h : ∀ t, Q (.int (ns.getD k 0 : Nat) t) s)
    (hs : subscripted slice false (.ref l) (.int (k : Int) u) = operate [.ref l, .int (k : Int) u] (getItem (.ref l) (.int (k : Int) u))) :
    wpAny (model prog w) A (subscriptTail value slice (.ref l) (.int (k : Int) u)) Q E s := by
  refine item_anyK hl hi (by lia) (by rw [List.length_map]; lia) (by lia) (fun t => ?_) hs
  have e : (ns.map fun c : Nat => (c : Int)).getD (k : Int).toNat 0 = ((ns.getD k 0 : Nat) : Int) := by
    rw [Int.toNat_natCast, List.getD_eq_getElem?_getD, List.getElem?_map, List.getD_eq_getElem?_getD, List.getElem?_eq_getElem h1]; rfl
  rw [e]; exact h t
end
end Mine
namespace Mine
section
variable {prog : Program} {w : World} {A : Around} {E : Value → Shared → Prop} {s : Shared}
theorem len_lst {l : Addr} {vs : List Value} {Q : Value → Shared → Prop} (hl : s.heap.IsList l vs.toArray) (hfit : vs.length ≤ 1000000) (h : ∀ t tk, Q (.int (vs.length : Nat) t) { s with toks := tk }) :
    wpAny (model prog w) A (call (.builtin "len") [.ref l]) Q E s := by
  refine len_list hl (by rw [List.size_toArray]; lia) ?_
  have := h (s.toks + 1) (s.toks + 1 + 1)
  simpa using this
end
end Mine
end
section
open PySem PySem.W PyProof.Rows PySem.Calls
open PyProof.Rows.LCg (NsObj ns_obj lst lst_snoc SrcAt)
set_option Elab.async false
set_option maxRecDepth 100000
set_option maxHeartbeats 4000000
namespace Mine
section
variable {prog : Program} {w : World} {A : Around} {E : Value → Shared → Prop} {s : Shared} {h₀ : Heap} {L : Addr} {m : Str → Option Value} {news : List (Addr × Obj)}
theorem item_at {value slice : PySem.Expr} {l : Addr} {vs : List Value} {k : Nat} {x : Value} {u : Tok} {Q : Value → Shared → Prop} (hl : s.heap.IsList l vs.toArray) (hx : vs[k]? = some x) (hfit : k < 2 ^ 63) (h : Q x s)
    (hs : subscripted slice false (.ref l) (.int (k : Int) u) = operate [.ref l, .int (k : Int) u] (getItem (.ref l) (.int (k : Int) u))) :
    wpAny (model prog w) A (subscriptTail value slice (.ref l) (.int (k : Int) u)) Q E s :=
  tail_any hl.typeIs slot_list_getitem.lookup (wpAny_getItem_list hl (by lia) (by lia) (by simpa using hx) h) hs
theorem item_last {value slice : PySem.Expr} {l : Addr} {vs : List Value} {x : Value} {u : Tok} {Q : Value → Shared → Prop} (hl : s.heap.IsList l vs.toArray) (hx : vs.getLast? = some x) (h : Q x s)
    (hs : subscripted slice false (.ref l) (.int (-1) u) = operate [.ref l, .int (-1) u] (getItem (.ref l) (.int (-1) u))) :
    wpAny (model prog w) A (subscriptTail value slice (.ref l) (.int (-1) u)) Q E s := by
  have hne : 0 < vs.length := by cases vs with | nil => simp at hx | cons _ _ => simp
  have hneg : ((-1 : Int) + (vs.length : Int)).toNat = vs.length - 1 := by
    obtain ⟨n, hn⟩ := Nat.exists_eq_succ_of_ne_zero (Nat.ne_of_gt hne)
    rw [hn]
    exact congrArg Int.toNat ((Int.add_comm (-1) ((n : Int) + 1)).trans (Int.add_neg_cancel_right (n : Int) 1))
  refine tail_any hl.typeIs slot_list_getitem.lookup (wpAny_getItem_list_neg hl (by lia) (by rw [List.size_toArray]; lia) (by lia) (x := x) ?_ h) hs
  rw [List.size_toArray, hneg, List.getElem?_toArray, ← List.getLast?_eq_getElem?]
  exact hx
theorem pick_mid {vs : List Value} (h : 2 ≤ vs.length) : slicePick vs.toArray (some 1) (some (-1)) none = ((vs.drop 1).dropLast).toArray := by
  have e : slicePick vs.toArray (some 1) (some (-1)) none = slicePick vs.toArray (some ((1 : Nat) : Int)) (some ((vs.length - 1 : Nat) : Int)) none := by
    unfold slicePick
    congr 3
    all_goals (simp [sliceBounds]; try lia)
  rw [e, slicePick_run vs.toArray 1 (vs.length - 1) (by simp) (by lia)]
  congr 1
  rw [List.dropLast_eq_take, List.length_drop]
theorem slice_mid {value slice : PySem.Expr} {l : Addr} {vs : List Value} {u u' : Tok} {Q : Value → Shared → Prop} (F : Fr h₀ L s.heap m) (N : News h₀ L s.heap news) (hl : s.heap.IsList l vs.toArray) (h2 : 2 ≤ vs.length) (hz : vs.length ≤ sizeLine)
    (h : ∀ h' D o, D = s.heap.objs.size + 1 → Fr h₀ L h' m → News h₀ L h' ((D, o) :: news) → o.cls = .type "list" → (∃ n, o.data = .seq ((vs.drop 1).dropLast).toArray n) → Q (.ref D) { s with heap := h' })
    (hs : subscripted slice false (.ref l) (.ref s.heap.objs.size) = operate [.ref s.heap.objs.size, .ref l] (getItem (.ref l) (.ref s.heap.objs.size)))
    (ht : ∀ r, letTemporaryGo value (.ref l) r = pure ()) :
    wpAny (model prog w) A (subscriptTail value slice (.ref l) (.ref s.heap.objs.size)) Q E { s with heap := s.heap.push { cls := .type "slice", data := .fields #[.int 1 u, .int (-1) u', .none] } } := by
  refine slice_list F N hl (IsPart.int _ _) (IsPart.int _ _) (fun h' F' N' => ?_) hs ht (by rw [List.size_toArray]; exact hz)
  rw [pick_mid h2] at N'
  exact h h' _ _ rfl F' N' rfl ⟨_, rfl⟩
end
theorem if_rp {α : Type} {y a b : Str} {A B D E : α} (hab : a ≠ b) : (if y = b then B else if y = a then A else if y = b then D else E) = if y = a then A else if y = b then B else E := by
  by_cases e1 : y = a <;> by_cases e2 : y = b <;> simp_all
end Mine
namespace Mine
theorem if_none {α : Type} {y a : Str} {A : Option α} {g : Str → Option α} {b : Str} (hb : g b = none) : (if y = a then A else g y) = if y = a then A else if y = b then none else g y := by
  by_cases e : y = b
  · subst e; simp [hb]
  · simp [e]
theorem All2.dropLast {α β : Type} {R : α → β → Prop} {xs : List α} {ys : List β} (h : All2 R xs ys) : All2 R xs.dropLast ys.dropLast := by
  refine ⟨by simp [h.1], fun i x y hx hy => ?_⟩
  rw [List.getElem?_dropLast] at hx hy
  split at hx
  · split at hy
    · exact h.2 i x y hx hy
    · cases hy
  · cases hx
theorem All2.last {α β : Type} {R : α → β → Prop} {xs : List α} {ys : List β} (h : All2 R xs ys) {x : α} (hx : xs.getLast? = some x) : ∃ y, ys.getLast? = some y ∧ R x y := by
  rw [List.getLast?_eq_getElem?] at hx
  obtain ⟨y, hy, r⟩ := h.get hx
  exact ⟨y, by rw [List.getLast?_eq_getElem?, ← h.1]; exact hy, r⟩
end Mine
namespace Mine
section
variable {prog : Program} {w : World} {A : Around} {E : Value → Shared → Prop} {s : Shared} {h₀ : Heap} {L : Addr} {m : Str → Option Value} {rest : List (Addr × Obj)}
theorem append_own {D : Addr} {vs : List Value} {n : Nat} {x : Value} {Q : Value → Shared → Prop} (F : Fr h₀ L s.heap m) (N : News h₀ L s.heap ((D, W.listOf vs.toArray n) :: rest)) (off : ∀ p ∈ rest, p.1 ≠ D) (hsz : vs.length ≤ 100000)
    (k : ∀ h', Fr h₀ L h' m → News h₀ L h' ((D, W.listOf (vs ++ [x]).toArray (n + 1)) :: rest) → Q .none { s with heap := h' }) :
    wpAny (model prog w) A (call (.builtin "list.append") [.ref D, x]) Q E s := by
  have zD := N _ List.mem_cons_self
  refine append_at (hsz := Nat.le_trans (by rw [List.size_toArray]; exact hsz) (by decide)) zD.1 fun h' hs ho => k h' (F.change hs zD.2.1 zD.2.2) fun p hp => ?_
  rcases List.mem_cons.mp hp with rfl | hp
  · refine ⟨ho.trans (congrArg some ?_), zD.2⟩
    show ({ cls := .type "list", data := .seq (vs.toArray.push x) (n + 1) } : Obj) = W.listOf (vs ++ [x]).toArray (n + 1)
    rw [List.push_toArray]
  · have z := N p (List.mem_cons_of_mem _ hp)
    exact ⟨(hs.2 _ (off p hp)).trans z.1, z.2⟩
end
end Mine
namespace Mine
theorem look_hit {a : Str} {v : Value} {m : Str → Option Value} : (fun y => if y = a then some v else m y) a = some v := if_pos rfl
theorem look_skip {a b : Str} {v : Option Value} {w : Value} {m : Str → Option Value} (hab : b ≠ a) (h : m b = some w) : (fun y => if y = a then v else m y) b = some w := (if_neg hab).trans h
end Mine
namespace Mine
section
variable {prog : Program} {w : World} {A : Around} {E : Value → Shared → Prop} {s : Shared} {h₀ : Heap} {L : Addr} {m : Str → Option Value} {rest : List (Addr × Obj)}
theorem append_pre {D : Addr} {vs : List Value} {n : Nat} {x : Value} {pre post : List (Addr × Obj)} {Q : Value → Shared → Prop} (F : Fr h₀ L s.heap m) (N : News h₀ L s.heap (pre ++ (D, W.listOf vs.toArray n) :: post)) (hpre : ∀ p ∈ pre, p.2.cls = .type "tuple") (off : ∀ p ∈ post, p.1 ≠ D) (hsz : vs.length ≤ 100000)
    (k : ∀ h', Fr h₀ L h' m → News h₀ L h' ((D, W.listOf (vs ++ [x]).toArray (n + 1)) :: (pre ++ post)) → (∀ p ∈ pre ++ post, p.1 ≠ D) → Q .none { s with heap := h' }) :
    wpAny (model prog w) A (call (.builtin "list.append") [.ref D, x]) Q E s := by
  have offa : ∀ p ∈ pre ++ post, p.1 ≠ D := fun p hp => by
    rcases List.mem_append.mp hp with hp | hp
    · intro e
      have a := (N p (by simp [hp])).1
      have b := (N (D, W.listOf vs.toArray n) (by simp)).1
      rw [e, b] at a
      have c := hpre p hp
      rw [← Option.some.inj a] at c
      exact absurd (show Value.type "list" = Value.type "tuple" from c) (by simp)
    · exact off p hp
  refine append_own F (rest := pre ++ post) (fun p hp => N p ?_) offa hsz fun h' a b => k h' a b offa
  rcases List.mem_cons.mp hp with rfl | hp
  · simp
  · rcases List.mem_append.mp hp with hp | hp <;> simp [hp]
end
theorem off_app {xs ys : List (Addr × Obj)} {D : Addr} (h1 : ∀ p ∈ xs, p.1 ≠ D) (h2 : ∀ p ∈ ys, p.1 ≠ D) : ∀ p ∈ xs ++ ys, p.1 ≠ D := fun p hp => by
  rcases List.mem_append.mp hp with hp | hp
  · exact h1 p hp
  · exact h2 p hp
theorem off_of {tl : List (Addr × Obj)} {l : List Addr} {D : Addr} (O : OwnOff tl l) (h : D ∈ l) : ∀ p ∈ tl, p.1 ≠ D := fun p hp => O p hp D h
end Mine

namespace Mine
theorem tup_nil : ∀ p ∈ ([] : List (Addr × Obj)), p.2.cls = .type "tuple" := fun _ h => nomatch h
theorem tup_cons {a : Addr × Obj} {r : List (Addr × Obj)} (h : a.2.cls = .type "tuple") (k : ∀ p ∈ r, p.2.cls = .type "tuple") : ∀ p ∈ a :: r, p.2.cls = .type "tuple" := fun p hp => by
  rcases List.mem_cons.mp hp with rfl | hp
  · exact h
  · exact k p hp
end Mine
end
section
open PySem PySem.W PyProof.Rows PySem.Calls PySem.Builtin.Str PySem.StrLaws
set_option Elab.async false
set_option maxRecDepth 100000
set_option maxHeartbeats 4000000
namespace Mine
/-- a text of these signs -/
def txt (l : List Nat) : Str := ⟨l.toArray⟩
theorem txt_length {l : List Nat} : (txt l).length = l.length := by simp [txt, Str.length]
theorem txt_cps {l : List Nat} : (txt l).cps.toList = l := by simp [txt]
theorem txt_get {l : List Nat} {i : Nat} : (txt l).cps[i]? = l[i]? := by simp [txt]
theorem of_txt (x : Str) : x = txt x.cps.toList := by simp [txt]
theorem txt_add {a b : List Nat} : txt a ++ txt b = txt (a ++ b) := by
  show Str.mk (a.toArray ++ b.toArray) = Str.mk (a ++ b).toArray
  simp
theorem txt_inj {a b : List Nat} : txt a = txt b ↔ a = b := by
  constructor
  · intro h; have := congrArg (fun s : Str => s.cps.toList) h; simpa [txt] using this
  · exact fun h => h ▸ rfl
theorem txt_beq {a b : List Nat} : (txt a == txt b) = decide (a = b) := by
  rw [Bool.eq_iff_iff, beq_iff_eq, txt_inj, decide_eq_true_eq]
theorem slice_of {l : List Nat} {lo hi : Option Int} {a b : Nat} (hab : a ≤ b) (hb : b ≤ l.length) (e : strSliceIndices lo hi 1 l.length = strSliceIndices (some (a : Int)) (some (b : Int)) 1 l.length) : Txt.slice (txt l) lo hi = txt ((l.drop a).take (b - a)) := by
  unfold Txt.slice
  rw [txt_length, e]
  have h2 : (strSliceIndices (some (a : Int)) (some (b : Int)) 1 l.length).filterMap ((txt l).cps[·]?) = (l.drop a).take (b - a) := by
    have := sliced_plain (txt l) hab (by rw [txt_length]; exact hb)
    rw [txt_length, txt_cps] at this
    exact this
  split
  · rename_i hl
    have hl' : b - a = l.length := by
      have h3 := eq_of_beq ((Bool.and_eq_true _ _ ▸ hl).2)
      rw [strSliceIndices_plain hab hb] at h3
      simpa using h3
    have hx : l.length + a ≤ l.length := by rw [← hl', Nat.sub_add_cancel hab, hl']; exact hb
    have ha : a = 0 := Nat.eq_zero_of_le_zero (Nat.le_of_add_le_add_left (hx : l.length + a ≤ l.length + 0))
    subst ha
    rw [List.drop_zero, List.take_of_length_le (Nat.le_of_eq hl'.symm)]
  · exact congrArg (fun z : List Nat => Str.mk z.toArray) h2
def clp (v : Option Int) (d n : Int) : Int := match v with | none => d | some i => max 0 (min (if i < 0 then i + n else i) n)
theorem idx_clp {lo hi : Option Int} {n : Nat} : strSliceIndices lo hi 1 n = sliceRange (clp lo 0 n) (clp hi n n) 1 := by
  cases lo <;> cases hi <;> simp [strSliceIndices, clp]
theorem clip_eq {lo hi lo' hi' : Option Int} {n : Nat} (h1 : clp lo 0 n = clp lo' 0 n) (h2 : clp hi n n = clp hi' n n) : strSliceIndices lo hi 1 n = strSliceIndices lo' hi' 1 n := by
  rw [idx_clp, idx_clp, h1, h2]
theorem clp_nat {i n : Nat} {d : Int} : clp (some (i : Int)) d n = ((min i n : Nat) : Int) := by
  simp only [clp]
  rw [if_neg (Int.not_lt.mpr (Int.natCast_nonneg i))]
  rcases Nat.le_total i n with h | h
  · rw [Nat.min_eq_left h, Int.min_eq_left (Int.ofNat_le.mpr h), Int.max_eq_right (Int.natCast_nonneg i)]
  · rw [Nat.min_eq_right h, Int.min_eq_right (Int.ofNat_le.mpr h), Int.max_eq_right (Int.natCast_nonneg n)]
theorem clp_up {b n : Nat} {d : Int} (h : n ≤ b) : clp (some (b : Int)) d n = clp (some (n : Int)) d n := by rw [clp_nat, clp_nat, Nat.min_eq_right h, Nat.min_self]
theorem clp_end {n : Nat} : clp none n n = clp (some (n : Int)) n n := by rw [clp_nat, Nat.min_self]; rfl
theorem clp_0 {n : Nat} : clp none 0 n = clp (some ((0 : Nat) : Int)) 0 n := by rw [clp_nat, Nat.zero_min]; rfl
theorem slice_txt (l : List Nat) (a b : Nat) (h : a ≤ b) : Txt.slice (txt l) (some (a : Int)) (some (b : Int)) = txt ((l.drop a).take (b - a)) := by
  rcases Nat.le_total b l.length with hb | hb
  · exact slice_of h hb rfl
  · rw [slice_of (a := min a l.length) (b := l.length) (Nat.min_le_right _ _) (Nat.le_refl _) (clip_eq (by rw [clp_nat, clp_nat, Nat.min_eq_left (Nat.min_le_right a l.length)]) (clp_up hb))]
    congr 1
    rcases Nat.le_total a l.length with ha | ha
    · rw [Nat.min_eq_left ha, List.take_of_length_le (by rw [List.length_drop]; exact Nat.le_refl _), List.take_of_length_le (by rw [List.length_drop]; exact Nat.sub_le_sub_right hb a)]
    · rw [Nat.min_eq_right ha, List.drop_of_length_le ha, List.drop_of_length_le (Nat.le_refl _)]; simp
theorem slice_from (l : List Nat) (a : Nat) : Txt.slice (txt l) (some (a : Int)) none = txt (l.drop a) := by
  rcases Nat.le_total a l.length with ha | ha
  · rw [slice_of (a := a) (b := l.length) ha (Nat.le_refl _) (clip_eq rfl clp_end), List.take_of_length_le (by simp)]
  · rw [slice_of (a := l.length) (b := l.length) (Nat.le_refl _) (Nat.le_refl _) (clip_eq (clp_up ha) clp_end), List.drop_of_length_le ha, List.drop_of_length_le (Nat.le_refl _)]
    simp
theorem slice_to (l : List Nat) (b : Nat) : Txt.slice (txt l) none (some (b : Int)) = txt (l.take b) := by
  rcases Nat.le_total b l.length with hb | hb
  · rw [slice_of (a := 0) (b := b) (Nat.zero_le _) hb (clip_eq clp_0 rfl)]; simp
  · rw [slice_of (a := 0) (b := l.length) (Nat.zero_le _) (Nat.le_refl _) (clip_eq clp_0 (clp_up hb)), List.take_of_length_le hb]
    simp
theorem slice_last (l : List Nat) (n : Nat) (h0 : 0 < n) (h : n ≤ l.length) : Txt.slice (txt l) (some (-(n : Int))) none = txt (l.drop (l.length - n)) := by
  have e : clp (some (-(n : Int))) 0 l.length = clp (some ((l.length - n : Nat) : Int)) 0 l.length := by
    rw [clp_nat, Nat.min_eq_left (Nat.sub_le _ _)]
    have e1 : -(n : Int) + (l.length : Int) = ((l.length - n : Nat) : Int) := by rw [Int.ofNat_sub h, Int.add_comm]; rfl
    have e2 : (-(n : Int)) < 0 := Int.neg_neg_of_pos (Int.ofNat_lt.mpr h0)
    simp only [clp]
    rw [if_pos e2, e1, Int.min_eq_left (Int.ofNat_le.mpr (Nat.sub_le _ _)), Int.max_eq_right (Int.natCast_nonneg _)]
  rw [slice_of (a := l.length - n) (b := l.length) (Nat.sub_le _ _) (Nat.le_refl _) (clip_eq e clp_end), List.take_of_length_le (by simp)]
end Mine
end
section
open PySem PySem.W PyProof.Rows PySem.Calls
set_option Elab.async false
set_option maxRecDepth 100000
set_option maxHeartbeats 1000000
namespace Mine
open PyProof.Rows.LCg (NsObj ns_obj lst lst_snoc SrcAt)
theorem slice1 {l : List Nat} {k : Nat} : Txt.slice (txt l) (some (k : Int)) (some ((k : Int) + 1)) = txt ((l.drop k).take 1) := by
  have := slice_txt l k (k + 1) (by lia)
  rw [Nat.add_sub_cancel_left] at this
  rw [← this]; push_cast; rfl
theorem slice2 {l : List Nat} {k : Nat} : Txt.slice (txt l) (some ((k : Int) + 1)) (some ((k : Int) + 2)) = txt ((l.drop (k + 1)).take 1) := by
  have := slice_txt l (k + 1) (k + 2) (by lia)
  rw [show k + 2 - (k + 1) = 1 by lia] at this
  rw [← this]; push_cast; rfl
theorem s92 : Str.ofString "\\" = txt [92] := by decide
theorem s94 : Str.ofString "^" = txt [94] := by decide
theorem s45 : Str.ofString "-" = txt [45] := by decide
theorem s93 : Str.ofString "]" = txt [93] := by decide
theorem s0 : Str.ofString "" = txt [] := by decide
def signAt (T : List Nat) (k : Nat) : List Nat × Nat := if (T.drop k).take 1 = [92] then ((T.drop (k + 1)).take 1, k + 2) else ((T.drop k).take 1, k + 1)
theorem signAt_lt {T : List Nat} {k : Nat} : k < (signAt T k).2 := by unfold signAt; split <;> (show k < _; lia)
abbrev tupObj (items : Array Value) (n : Nat) : Obj := { cls := .type "tuple", data := .seq items n }
abbrev SEnd := List Nat × List Nat
inductive SetRun (tx : List Nat) : Nat → List SEnd → List SEnd × Nat → Prop
  | stop {k : Nat} {es : List SEnd} : ((tx.drop k).take 1 = [] ∨ (tx.drop k).take 1 = [93]) → SetRun tx k es (es, k)
  | two {k : Nat} {es : List SEnd} {r : List SEnd × Nat} : ¬ ((tx.drop k).take 1 = [] ∨ (tx.drop k).take 1 = [93]) → (tx.drop (signAt tx k).2).take 1 = [45] →
      SetRun tx (signAt tx ((signAt tx k).2 + 1)).2 (es ++ [((signAt tx k).1, (signAt tx ((signAt tx k).2 + 1)).1)]) r → SetRun tx k es r
  | one {k : Nat} {es : List SEnd} {r : List SEnd × Nat} : ¬ ((tx.drop k).take 1 = [] ∨ (tx.drop k).take 1 = [93]) → ¬ (tx.drop (signAt tx k).2).take 1 = [45] →
      SetRun tx (signAt tx k).2 (es ++ [((signAt tx k).1, (signAt tx k).1)]) r → SetRun tx k es r
theorem SetRun.inv {tx : List Nat} {k : Nat} {es : List SEnd} {o : List SEnd × Nat} (h : SetRun tx k es o) : (((tx.drop k).take 1 = [] ∨ (tx.drop k).take 1 = [93]) ∧ o = (es, k)) ∨
    (¬ ((tx.drop k).take 1 = [] ∨ (tx.drop k).take 1 = [93]) ∧ (tx.drop (signAt tx k).2).take 1 = [45] ∧ SetRun tx (signAt tx ((signAt tx k).2 + 1)).2 (es ++ [((signAt tx k).1, (signAt tx ((signAt tx k).2 + 1)).1)]) o) ∨
    (¬ ((tx.drop k).take 1 = [] ∨ (tx.drop k).take 1 = [93]) ∧ ¬ (tx.drop (signAt tx k).2).take 1 = [45] ∧ SetRun tx (signAt tx k).2 (es ++ [((signAt tx k).1, (signAt tx k).1)]) o) := by
  cases h with
  | stop q => exact .inl ⟨q, rfl⟩
  | two a b c => exact .inr (.inl ⟨a, b, c⟩)
  | one a b c => exact .inr (.inr ⟨a, b, c⟩)
def EndIn (tl : List (Addr × Obj)) (v : Value) (e : SEnd) : Prop := ∃ p t t' n, v = .ref p ∧ (p, tupObj #[.str (txt e.1) t, .str (txt e.2) t'] n) ∈ tl
theorem EndIn.mono {tl tl' : List (Addr × Obj)} {v : Value} {e : SEnd} (x : EndIn tl v e) (k : ∀ p ∈ tl, p ∈ tl') : EndIn tl' v e := by obtain ⟨p, t, t', n, e, h⟩ := x; exact ⟨p, t, t', n, e, k _ h⟩
theorem drop_take1 {tx : List Nat} {k : Nat} : (tx.drop k).take 1 = [] ↔ tx.length ≤ k := by
  rw [List.take_eq_nil_iff, List.drop_eq_nil_iff]; simp
theorem any2 {x : List Nat} {b : Bool} (h : ([Str.ofString "", Str.ofString "]"].any fun s => s == txt x) = b) : b = decide (x = [] ∨ x = [93]) := by
  rw [← h, s0, s93]
  show ((txt [] == txt x) || ((txt [93] == txt x) || false)) = _
  rw [txt_beq, txt_beq, Bool.or_false, Bool.eq_iff_iff, Bool.or_eq_true, decide_eq_true_eq, decide_eq_true_eq, decide_eq_true_eq]
  exact ⟨fun h => h.elim (fun a => .inl a.symm) (fun a => .inr a.symm), fun h => h.elim (fun a => .inl a.symm) (fun a => .inr a.symm)⟩
def SetOut (tx : List Nat) (k : Nat) (tl : List (Addr × Obj)) (v : Value) : Prop :=
  ∃ (p p1 le : Addr) (vs : List Value) (n1 n2 n3 : Nat) (tk : Tok) (es : List SEnd) (k' : Nat), v = .ref p ∧ (p, tupObj #[.ref p1, .int ((k' + 1 : Nat) : Int) tk] n1) ∈ tl ∧ (p1, tupObj #[.bool (decide ((tx.drop k).take 1 = [94])), .ref le] n2) ∈ tl ∧
    (le, W.listOf (List.toArray vs) n3) ∈ tl ∧ All2 (EndIn tl) vs es ∧ SetRun tx (if (tx.drop k).take 1 = [94] then k + 1 else k) [] (es, k')

namespace K_S_sign
def P (w : World) (h : Heap) (tx : List Nat) (k : Nat) (t : Tok) (tk0 : Tok) (dp : Nat) (un : Nat) (fr : Option (List Env)) (gd : Option (List Code)) (s : Shared) (Q : Value → Shared → Prop) (E : Value → Shared → Prop) : Prop :=
  ∀ (hS : St w h) (hT : tx.length ≤ 1000), SpecAt w 123 [.str (txt tx) t, .int k tk0] 3 300 h (fun tl v => ∃ p t1 t2 n, v = .ref p ∧ (p, tupObj #[.str (txt (signAt tx k).1) t1, .int ((signAt tx k).2 : Nat) t2] n) ∈ tl) dp un fr gd s Q E
theorem ne : Nonempty ((World) × (Heap) × (List Nat) × (Nat) × (Tok) × (Tok) × (Nat) × (Nat) × (Option (List Env)) × (Option (List Code)) × (Shared) × (Value → Shared → Prop) × (Value → Shared → Prop)) := ⟨(w0, Classical.ofNonempty, Classical.ofNonempty, Classical.ofNonempty, Classical.ofNonempty, Classical.ofNonempty, Classical.ofNonempty, Classical.ofNonempty, Classical.ofNonempty, Classical.ofNonempty, {}, Classical.ofNonempty, Classical.ofNonempty)⟩
noncomputable def κ : (World) × (Heap) × (List Nat) × (Nat) × (Tok) × (Tok) × (Nat) × (Nat) × (Option (List Env)) × (Option (List Code)) × (Shared) × (Value → Shared → Prop) × (Value → Shared → Prop) := pick ne fun c => ¬ P (c.1) (c.2.1) (c.2.2.1) (c.2.2.2.1) (c.2.2.2.2.1) (c.2.2.2.2.2.1) (c.2.2.2.2.2.2.1) (c.2.2.2.2.2.2.2.1) (c.2.2.2.2.2.2.2.2.1) (c.2.2.2.2.2.2.2.2.2.1) (c.2.2.2.2.2.2.2.2.2.2.1) (c.2.2.2.2.2.2.2.2.2.2.2.1) (c.2.2.2.2.2.2.2.2.2.2.2.2)
noncomputable def w : World := κ.1
noncomputable def h : Heap := κ.2.1
noncomputable def tx : List Nat := κ.2.2.1
noncomputable def k : Nat := κ.2.2.2.1
noncomputable def t : Tok := κ.2.2.2.2.1
noncomputable def tk0 : Tok := κ.2.2.2.2.2.1
noncomputable def dp : Nat := κ.2.2.2.2.2.2.1
noncomputable def un : Nat := κ.2.2.2.2.2.2.2.1
noncomputable def fr : Option (List Env) := κ.2.2.2.2.2.2.2.2.1
noncomputable def gd : Option (List Code) := κ.2.2.2.2.2.2.2.2.2.1
noncomputable def s : Shared := κ.2.2.2.2.2.2.2.2.2.2.1
noncomputable def Q : Value → Shared → Prop := κ.2.2.2.2.2.2.2.2.2.2.2.1
noncomputable def E : Value → Shared → Prop := κ.2.2.2.2.2.2.2.2.2.2.2.2
noncomputable def L : Addr := Heap.objs h |>.size
noncomputable def h₁ : Heap := (HT (hd.heap_39 w.params) 123 w h L dp un fr gd s Q [(Str.ofString "text", .str (txt tx) t), (Str.ofString "k", .int k tk0)]).1
noncomputable def tk : Nat := (HT (hd.heap_39 w.params) 123 w h L dp un fr gd s Q [(Str.ofString "text", .str (txt tx) t), (Str.ofString "k", .int k tk0)]).2
theorem core : P w h tx k t tk0 dp un fr gd s Q E := by
  intro hS hT hdp hun hh hQ
  w_top off
  refine fillG ?_
  k_fill
  intro _ _
  obtain ⟨X, T⟩ := St.top hS
  refine' enterE (K := hd.heap_39 w.params) hdp hh L rfl X T [(Str.ofString "text", .str (txt tx) t), (Str.ofString "k", .int k tk0)] ?k3 ?k4 (by lia) ?k6 ?k7 ?k8 ?k9 ?k10 ?k11 h₁ rfl tk rfl ?_
  case k3 => k_is
  case k4 => k_is
  case k6 => exact rfl
  case k7 => decide
  case k8 => exact locs rfl
  case k9 => exact rfl
  case k10 => exact rfl
  case k11 => exact rfl
  intro F N
  have hL : L = h.objs.size := rfl
  try dsimp only
  have hnt : (txt tx).length ≤ 2000 := by rw [txt_length]; lia
  k_steps
  · rename (_ == _) = true => e1
    rw [slice1, s92, txt_beq, decide_eq_true_eq] at e1
    have e : signAt tx k = ((tx.drop (k + 1)).take 1, k + 2) := by simp only [signAt, if_pos e1]
    have i1 : Txt.slice (txt tx) (some ((k : Int) + 1)) (some ((k : Int) + 2)) = txt (signAt tx k).1 := by rw [e, slice2]
    have i2 : (k : Int) + 2 = ((signAt tx k).2 : Nat) := by rw [e]; push_cast; rfl
    (with_reducible rename News _ _ _ _ => Nn)
    rw [i1, i2] at Nn
    exact hQ _ _ _ _ (kp_of (by assumption)) (fsh_of Nn) ⟨_, _, _, _, rfl, .head _⟩
  · rename (_ == _) = false => e1
    rw [slice1, s92, txt_beq, decide_eq_false_iff_not] at e1
    have e : signAt tx k = ((tx.drop k).take 1, k + 1) := by simp only [signAt, if_neg e1]
    have i1 : Txt.slice (txt tx) (some (k : Int)) (some ((k : Int) + 1)) = txt (signAt tx k).1 := by rw [e, slice1]
    have i2 : (k : Int) + 1 = ((signAt tx k).2 : Nat) := by rw [e]; push_cast; rfl
    (with_reducible rename News _ _ _ _ => Nn)
    rw [i1, i2] at Nn
    exact hQ _ _ _ _ (kp_of (by assumption)) (fsh_of Nn) ⟨_, _, _, _, rfl, .head _⟩
end K_S_sign
theorem S_sign (w : World) (h : Heap) (tx : List Nat) (k : Nat) (t tk0 : Tok) (hS : St w h) (hT : tx.length ≤ 1000) : Spec w 123 [.str (txt tx) t, .int k tk0] 3 300 h (fun tl v => ∃ p t1 t2 n, v = .ref p ∧ (p, tupObj #[.str (txt (signAt tx k).1) t1, .int ((signAt tx k).2 : Nat) t2] n) ∈ tl) :=
  spec_of fun dp un fr gd s Q E => pickAll K_S_sign.ne (P := fun c => K_S_sign.P (c.1) (c.2.1) (c.2.2.1) (c.2.2.2.1) (c.2.2.2.2.1) (c.2.2.2.2.2.1) (c.2.2.2.2.2.2.1) (c.2.2.2.2.2.2.2.1) (c.2.2.2.2.2.2.2.2.1) (c.2.2.2.2.2.2.2.2.2.1) (c.2.2.2.2.2.2.2.2.2.2.1) (c.2.2.2.2.2.2.2.2.2.2.2.1) (c.2.2.2.2.2.2.2.2.2.2.2.2)) K_S_sign.core (w, h, tx, k, t, tk0, dp, un, fr, gd, s, Q, E) hS hT
inductive JW (tx : List Nat) (t : Tok) (k k0 : Nat) (n : Nat) (m : Str → Option Value) (news : List (Addr × Obj)) : Prop
  | mk (k' : Nat) (tk : Tok) (le : Addr) (vs : List Value) (nl : Nat) (extra : List (Addr × Obj)) (es : List SEnd) (h1 : m (Str.ofString "k") = some (.int k' tk)) (h2 : m (Str.ofString "ends") = some (.ref le)) (h3 : m (Str.ofString "turned") = some (.bool (Txt.slice (txt tx) (some (k : Int)) (some ((k : Int) + 1)) == Str.ofString "^"))) (h4 : m (Str.ofString "text") = some (.str (txt tx) t)) (h5 : news = (le, W.listOf (List.toArray vs) nl) :: extra) (h6 : (∀ p ∈ extra, p.1 ≠ le)) (h7 : n = tx.length + 1 - k') (h8 : All2 (EndIn extra) vs es) (h9 : vs.length ≤ k') (h10 : (∀ r, SetRun tx k' es r → SetRun tx k0 [] r)) : JW tx t k k0 n m news
section
local macro_rules | `(tactic| walk_at "execs cons") => `(tactic| wtm_at "mXC")
local macro_rules | `(tactic| walk_at "eval Name") => `(tactic| wtm_at "mNM")

namespace K_S_set
def P (w : World) (h : Heap) (tx : List Nat) (k : Nat) (t : Tok) (tk0 : Tok) (dp : Nat) (un : Nat) (fr : Option (List Env)) (gd : Option (List Code)) (s : Shared) (Q : Value → Shared → Prop) (E : Value → Shared → Prop) : Prop :=
  ∀ (hS : St w h) (hT : tx.length ≤ 1000), SpecAt w 130 [.str (txt tx) t, .int k tk0] 6 600 h (fun tl v => SetOut tx k tl v) dp un fr gd s Q E
theorem ne : Nonempty ((World) × (Heap) × (List Nat) × (Nat) × (Tok) × (Tok) × (Nat) × (Nat) × (Option (List Env)) × (Option (List Code)) × (Shared) × (Value → Shared → Prop) × (Value → Shared → Prop)) := ⟨(w0, Classical.ofNonempty, Classical.ofNonempty, Classical.ofNonempty, Classical.ofNonempty, Classical.ofNonempty, Classical.ofNonempty, Classical.ofNonempty, Classical.ofNonempty, Classical.ofNonempty, {}, Classical.ofNonempty, Classical.ofNonempty)⟩
noncomputable def κ : (World) × (Heap) × (List Nat) × (Nat) × (Tok) × (Tok) × (Nat) × (Nat) × (Option (List Env)) × (Option (List Code)) × (Shared) × (Value → Shared → Prop) × (Value → Shared → Prop) := pick ne fun c => ¬ P (c.1) (c.2.1) (c.2.2.1) (c.2.2.2.1) (c.2.2.2.2.1) (c.2.2.2.2.2.1) (c.2.2.2.2.2.2.1) (c.2.2.2.2.2.2.2.1) (c.2.2.2.2.2.2.2.2.1) (c.2.2.2.2.2.2.2.2.2.1) (c.2.2.2.2.2.2.2.2.2.2.1) (c.2.2.2.2.2.2.2.2.2.2.2.1) (c.2.2.2.2.2.2.2.2.2.2.2.2)
noncomputable def w : World := κ.1
noncomputable def h : Heap := κ.2.1
noncomputable def tx : List Nat := κ.2.2.1
noncomputable def k : Nat := κ.2.2.2.1
noncomputable def t : Tok := κ.2.2.2.2.1
noncomputable def tk0 : Tok := κ.2.2.2.2.2.1
noncomputable def dp : Nat := κ.2.2.2.2.2.2.1
noncomputable def un : Nat := κ.2.2.2.2.2.2.2.1
noncomputable def fr : Option (List Env) := κ.2.2.2.2.2.2.2.2.1
noncomputable def gd : Option (List Code) := κ.2.2.2.2.2.2.2.2.2.1
noncomputable def s : Shared := κ.2.2.2.2.2.2.2.2.2.2.1
noncomputable def Q : Value → Shared → Prop := κ.2.2.2.2.2.2.2.2.2.2.2.1
noncomputable def E : Value → Shared → Prop := κ.2.2.2.2.2.2.2.2.2.2.2.2
noncomputable def L : Addr := Heap.objs h |>.size
noncomputable def h₁ : Heap := (HT (hd.heap_39 w.params) 130 w h L dp un fr gd s Q [(Str.ofString "text", .str (txt tx) t), (Str.ofString "k", .int k tk0)]).1
noncomputable def tk : Nat := (HT (hd.heap_39 w.params) 130 w h L dp un fr gd s Q [(Str.ofString "text", .str (txt tx) t), (Str.ofString "k", .int k tk0)]).2
theorem core : P w h tx k t tk0 dp un fr gd s Q E := by
  intro hS hT hdp hun hh hQ
  w_top off
  refine fillG ?_
  k_fill
  intro _ _
  obtain ⟨X, T⟩ := St.top hS
  refine' enterE (K := hd.heap_39 w.params) hdp hh L rfl X T [(Str.ofString "text", .str (txt tx) t), (Str.ofString "k", .int k tk0)] ?k3 ?k4 (by lia) ?k6 ?k7 ?k8 ?k9 ?k10 ?k11 h₁ rfl tk rfl ?_
  case k3 => k_is
  case k4 => k_is
  case k6 => exact rfl
  case k7 => decide
  case k8 => exact locs rfl
  case k9 => exact rfl
  case k10 => exact rfl
  case k11 => exact rfl
  intro F N
  have hL : L = h.objs.size := rfl
  try dsimp only
  have hnt : (txt tx).length ≤ 2000 := by rw [txt_length]; lia
  k_steps
  repeat' ((first | ((with_reducible refine Stop.ref ?_); refine use_spec (S_sign _ _ _ _ _ _ stK (by assumption)) rfl (by first | exact bud (by assumption) (by rfl) | exact bud0 (by assumption) (by rfl) | (dsimp only [AA]; lia)) (by first | exact bud (by assumption) (by rfl) | exact bud0 (by assumption) (by rfl) | (dsimp only [AA]; lia)) (by assumption) (by assumption) ?_; intro _ _ _ _ _ _ _ R'; obtain ⟨_, _, _, _, e', _⟩ := R'; cases e')); (try k_steps))
  · have eneg : (Txt.slice (txt tx) (some (k : Int)) (some ((k : Int) + 1)) == Str.ofString "^") = true := by assumption
    have eneg' := eneg
    rw [slice1, s94, txt_beq] at eneg'
    unfold Stop
    (with_reducible rename Fr _ _ _ _ => Fx)
    refine my_while (JW tx t k (k + 1)) (n₀ := tx.length + 1 - (k + 1)) Fx (by assumption)
      ⟨k + 1, _, _, [], _, [], [], (by repeat (first | with_reducible assumption | with_reducible exact if_pos rfl | refine (if_neg (by decide)).trans ?_ | rfl)), (by repeat (first | with_reducible assumption | with_reducible exact if_pos rfl | refine (if_neg (by decide)).trans ?_ | rfl)), (by repeat (first | with_reducible assumption | with_reducible exact if_pos rfl | refine (if_neg (by decide)).trans ?_ | rfl)), (by repeat (first | with_reducible assumption | with_reducible exact if_pos rfl | refine (if_neg (by decide)).trans ?_ | rfl)), rfl, off_nil, rfl, All2.nil, Nat.zero_le _, fun _ x => x⟩ ?_
    intro n m₁ news₁ h3 tk3 hq1 F3 N3
    (try k_fold)
    obtain ⟨u, tu, le, vs, nl, extra, es, mk, me, mt, mx, rfl, off, rfl, hall, hlen, hrun⟩ := hq1
    clear Fx
    have hsu := @signAt_lt tx u
    have hsv := @signAt_lt tx ((signAt tx u).2 + 1)
    k_steps
    repeat' ((first | ((with_reducible refine Stop.ref ?_); refine use_spec (S_sign _ _ _ _ _ _ stK (by assumption)) rfl (by first | exact bud (by assumption) (by rfl) | exact bud0 (by assumption) (by rfl) | (dsimp only [AA]; lia)) (by first | exact bud (by assumption) (by rfl) | exact bud0 (by assumption) (by rfl) | (dsimp only [AA]; lia)) (by assumption) (by assumption) ?_; intro _ _ _ _ _ _ _ R'; obtain ⟨_, _, _, _, e', _⟩ := R'; cases e')); (try k_steps))
    · have e1 : ([Str.ofString "", Str.ofString "]"].any fun x => x == Txt.slice (txt tx) (some (u : Int)) (some ((u : Int) + 1))) = true := by assumption
      rw [slice1] at e1
      have e2 := of_decide_eq_true (any2 e1).symm
      (with_reducible rename News _ _ _ _ => Nz)
      rw [eneg, ← eneg'] at Nz
      refine hQ _ _ _ _ (kp_of (by assumption)) (fsh_of Nz) ⟨_, _, le, vs, _, _, nl, _, es, u, rfl, .head _, .tail _ (.head _), .tail _ (.tail _ (.tail _ (.head _))), hall.mono fun _ _ q => q.mono fun p hp => .tail _ (.tail _ (.tail _ (.tail _ hp))), ?_⟩
      rw [if_pos (of_decide_eq_true eneg')]
      exact hrun _ (.stop e2)
    · have e1 : ([Str.ofString "", Str.ofString "]"].any fun x => x == Txt.slice (txt tx) (some (u : Int)) (some ((u : Int) + 1))) = false := by assumption
      have e3 : (Txt.slice (txt tx) (some ((signAt tx u).2 : Int)) (some (((signAt tx u).2 : Int) + 1)) == Str.ofString "-") = true := by assumption
      rw [slice1] at e1
      rw [slice1, s45, txt_beq, decide_eq_true_eq] at e3
      have e2 := of_decide_eq_false (any2 e1).symm
      have hul : u < tx.length := Nat.lt_of_not_le fun z => e2 (.inl (drop_take1.mpr z))
      unfold Stop
      (with_reducible rename Fr _ _ _ _ => Fz)
      (with_reducible rename News _ _ _ _ => Nz)
      simp only [List.cons_append, List.append_assoc] at Nz
      refine append_pre (pre := [_, _]) Fz Nz (tup_cons rfl (tup_cons rfl tup_nil)) (off_app off (off_app (off_of (by assumption) (by simp)) (off_of (by assumption) (by simp)))) (by lia) ?_
      clear Fz Nz
      intro h7 F7 N7 off7
      k_steps
      repeat' ((first | ((with_reducible refine Stop.ref ?_); refine use_spec (S_sign _ _ _ _ _ _ stK (by assumption)) rfl (by first | exact bud (by assumption) (by rfl) | exact bud0 (by assumption) (by rfl) | (dsimp only [AA]; lia)) (by first | exact bud (by assumption) (by rfl) | exact bud0 (by assumption) (by rfl) | (dsimp only [AA]; lia)) (by assumption) (by assumption) ?_; intro _ _ _ _ _ _ _ R'; obtain ⟨_, _, _, _, e', _⟩ := R'; cases e')); (try k_steps))
      unfold WPost
      refine WEnd.mk (n' := tx.length + 1 - (signAt tx ((signAt tx u).2 + 1)).2) F7 N7 (Nat.sub_lt_sub_left (by lia) (by lia)) ⟨_, _, le, _, _, _, _, (by repeat (first | with_reducible assumption | with_reducible exact if_pos rfl | refine (if_neg (by decide)).trans ?_ | rfl)), (by repeat (first | with_reducible assumption | with_reducible exact if_pos rfl | refine (if_neg (by decide)).trans ?_ | rfl)), (by repeat (first | with_reducible assumption | with_reducible exact if_pos rfl | refine (if_neg (by decide)).trans ?_ | rfl)), (by repeat (first | with_reducible assumption | with_reducible exact if_pos rfl | refine (if_neg (by decide)).trans ?_ | rfl)), rfl, off7, rfl,
        All2.snoc (hall.mono fun _ _ q => q.mono fun p hp => by simp [hp]) ⟨_, _, _, _, rfl, .head _⟩, by rw [List.length_append]; show vs.length + 1 ≤ _; lia, fun r x => hrun _ (.two e2 e3 x)⟩
    · have e1 : ([Str.ofString "", Str.ofString "]"].any fun x => x == Txt.slice (txt tx) (some (u : Int)) (some ((u : Int) + 1))) = false := by assumption
      have e3 : (Txt.slice (txt tx) (some ((signAt tx u).2 : Int)) (some (((signAt tx u).2 : Int) + 1)) == Str.ofString "-") = false := by assumption
      rw [slice1] at e1
      rw [slice1, s45, txt_beq, decide_eq_false_iff_not] at e3
      have e2 := of_decide_eq_false (any2 e1).symm
      have hul : u < tx.length := Nat.lt_of_not_le fun z => e2 (.inl (drop_take1.mpr z))
      unfold Stop
      (with_reducible rename Fr _ _ _ _ => Fz)
      (with_reducible rename News _ _ _ _ => Nz)
      simp only [List.cons_append, List.append_assoc] at Nz
      refine append_pre (pre := [_, _]) Fz Nz (tup_cons rfl (tup_cons rfl tup_nil)) (off_app off (off_of (by assumption) (by simp))) (by lia) ?_
      clear Fz Nz
      intro h7 F7 N7 off7
      k_steps
      repeat' ((first | ((with_reducible refine Stop.ref ?_); refine use_spec (S_sign _ _ _ _ _ _ stK (by assumption)) rfl (by first | exact bud (by assumption) (by rfl) | exact bud0 (by assumption) (by rfl) | (dsimp only [AA]; lia)) (by first | exact bud (by assumption) (by rfl) | exact bud0 (by assumption) (by rfl) | (dsimp only [AA]; lia)) (by assumption) (by assumption) ?_; intro _ _ _ _ _ _ _ R'; obtain ⟨_, _, _, _, e', _⟩ := R'; cases e')); (try k_steps))
      unfold WPost
      refine WEnd.mk (n' := tx.length + 1 - (signAt tx u).2) F7 N7 (Nat.sub_lt_sub_left (by lia) (by lia)) ⟨_, _, le, _, _, _, _, (by repeat (first | with_reducible assumption | with_reducible exact if_pos rfl | refine (if_neg (by decide)).trans ?_ | rfl)), (by repeat (first | with_reducible assumption | with_reducible exact if_pos rfl | refine (if_neg (by decide)).trans ?_ | rfl)), (by repeat (first | with_reducible assumption | with_reducible exact if_pos rfl | refine (if_neg (by decide)).trans ?_ | rfl)), (by repeat (first | with_reducible assumption | with_reducible exact if_pos rfl | refine (if_neg (by decide)).trans ?_ | rfl)), rfl, off7, rfl,
        All2.snoc (hall.mono fun _ _ q => q.mono fun p hp => by simp [hp]) ⟨_, _, _, _, rfl, .head _⟩, by rw [List.length_append]; show vs.length + 1 ≤ _; lia, fun r x => hrun _ (.one e2 e3 x)⟩
  · have eneg : (Txt.slice (txt tx) (some (k : Int)) (some ((k : Int) + 1)) == Str.ofString "^") = false := by assumption
    have eneg' := eneg
    rw [slice1, s94, txt_beq] at eneg'
    unfold Stop
    (with_reducible rename Fr _ _ _ _ => Fx)
    refine my_while (JW tx t k k) (n₀ := tx.length + 1 - (k)) Fx (by assumption)
      ⟨k, _, _, [], _, [], [], (by repeat (first | with_reducible assumption | with_reducible exact if_pos rfl | refine (if_neg (by decide)).trans ?_ | rfl)), (by repeat (first | with_reducible assumption | with_reducible exact if_pos rfl | refine (if_neg (by decide)).trans ?_ | rfl)), (by repeat (first | with_reducible assumption | with_reducible exact if_pos rfl | refine (if_neg (by decide)).trans ?_ | rfl)), (by repeat (first | with_reducible assumption | with_reducible exact if_pos rfl | refine (if_neg (by decide)).trans ?_ | rfl)), rfl, off_nil, rfl, All2.nil, Nat.zero_le _, fun _ x => x⟩ ?_
    intro n m₁ news₁ h3 tk3 hq2 F3 N3
    (try k_fold)
    obtain ⟨u, tu, le, vs, nl, extra, es, mk, me, mt, mx, rfl, off, rfl, hall, hlen, hrun⟩ := hq2
    clear Fx
    have hsu := @signAt_lt tx u
    have hsv := @signAt_lt tx ((signAt tx u).2 + 1)
    k_steps
    repeat' ((first | ((with_reducible refine Stop.ref ?_); refine use_spec (S_sign _ _ _ _ _ _ stK (by assumption)) rfl (by first | exact bud (by assumption) (by rfl) | exact bud0 (by assumption) (by rfl) | (dsimp only [AA]; lia)) (by first | exact bud (by assumption) (by rfl) | exact bud0 (by assumption) (by rfl) | (dsimp only [AA]; lia)) (by assumption) (by assumption) ?_; intro _ _ _ _ _ _ _ R'; obtain ⟨_, _, _, _, e', _⟩ := R'; cases e')); (try k_steps))
    · have e1 : ([Str.ofString "", Str.ofString "]"].any fun x => x == Txt.slice (txt tx) (some (u : Int)) (some ((u : Int) + 1))) = true := by assumption
      rw [slice1] at e1
      have e2 := of_decide_eq_true (any2 e1).symm
      (with_reducible rename News _ _ _ _ => Nz)
      rw [eneg, ← eneg'] at Nz
      refine hQ _ _ _ _ (kp_of (by assumption)) (fsh_of Nz) ⟨_, _, le, vs, _, _, nl, _, es, u, rfl, .head _, .tail _ (.head _), .tail _ (.tail _ (.tail _ (.head _))), hall.mono fun _ _ q => q.mono fun p hp => .tail _ (.tail _ (.tail _ (.tail _ hp))), ?_⟩
      rw [if_neg (of_decide_eq_false eneg')]
      exact hrun _ (.stop e2)
    · have e1 : ([Str.ofString "", Str.ofString "]"].any fun x => x == Txt.slice (txt tx) (some (u : Int)) (some ((u : Int) + 1))) = false := by assumption
      have e3 : (Txt.slice (txt tx) (some ((signAt tx u).2 : Int)) (some (((signAt tx u).2 : Int) + 1)) == Str.ofString "-") = true := by assumption
      rw [slice1] at e1
      rw [slice1, s45, txt_beq, decide_eq_true_eq] at e3
      have e2 := of_decide_eq_false (any2 e1).symm
      have hul : u < tx.length := Nat.lt_of_not_le fun z => e2 (.inl (drop_take1.mpr z))
      unfold Stop
      (with_reducible rename Fr _ _ _ _ => Fz)
      (with_reducible rename News _ _ _ _ => Nz)
      simp only [List.cons_append, List.append_assoc] at Nz
      refine append_pre (pre := [_, _]) Fz Nz (tup_cons rfl (tup_cons rfl tup_nil)) (off_app off (off_app (off_of (by assumption) (by simp)) (off_of (by assumption) (by simp)))) (by lia) ?_
      clear Fz Nz
      intro h7 F7 N7 off7
      k_steps
      repeat' ((first | ((with_reducible refine Stop.ref ?_); refine use_spec (S_sign _ _ _ _ _ _ stK (by assumption)) rfl (by first | exact bud (by assumption) (by rfl) | exact bud0 (by assumption) (by rfl) | (dsimp only [AA]; lia)) (by first | exact bud (by assumption) (by rfl) | exact bud0 (by assumption) (by rfl) | (dsimp only [AA]; lia)) (by assumption) (by assumption) ?_; intro _ _ _ _ _ _ _ R'; obtain ⟨_, _, _, _, e', _⟩ := R'; cases e')); (try k_steps))
      unfold WPost
      refine WEnd.mk (n' := tx.length + 1 - (signAt tx ((signAt tx u).2 + 1)).2) F7 N7 (Nat.sub_lt_sub_left (by lia) (by lia)) ⟨_, _, le, _, _, _, _, (by repeat (first | with_reducible assumption | with_reducible exact if_pos rfl | refine (if_neg (by decide)).trans ?_ | rfl)), (by repeat (first | with_reducible assumption | with_reducible exact if_pos rfl | refine (if_neg (by decide)).trans ?_ | rfl)), (by repeat (first | with_reducible assumption | with_reducible exact if_pos rfl | refine (if_neg (by decide)).trans ?_ | rfl)), (by repeat (first | with_reducible assumption | with_reducible exact if_pos rfl | refine (if_neg (by decide)).trans ?_ | rfl)), rfl, off7, rfl,
        All2.snoc (hall.mono fun _ _ q => q.mono fun p hp => by simp [hp]) ⟨_, _, _, _, rfl, .head _⟩, by rw [List.length_append]; show vs.length + 1 ≤ _; lia, fun r x => hrun _ (.two e2 e3 x)⟩
    · have e1 : ([Str.ofString "", Str.ofString "]"].any fun x => x == Txt.slice (txt tx) (some (u : Int)) (some ((u : Int) + 1))) = false := by assumption
      have e3 : (Txt.slice (txt tx) (some ((signAt tx u).2 : Int)) (some (((signAt tx u).2 : Int) + 1)) == Str.ofString "-") = false := by assumption
      rw [slice1] at e1
      rw [slice1, s45, txt_beq, decide_eq_false_iff_not] at e3
      have e2 := of_decide_eq_false (any2 e1).symm
      have hul : u < tx.length := Nat.lt_of_not_le fun z => e2 (.inl (drop_take1.mpr z))
      unfold Stop
      (with_reducible rename Fr _ _ _ _ => Fz)
      (with_reducible rename News _ _ _ _ => Nz)
      simp only [List.cons_append, List.append_assoc] at Nz
      refine append_pre (pre := [_, _]) Fz Nz (tup_cons rfl (tup_cons rfl tup_nil)) (off_app off (off_of (by assumption) (by simp))) (by lia) ?_
      clear Fz Nz
      intro h7 F7 N7 off7
      k_steps
      repeat' ((first | ((with_reducible refine Stop.ref ?_); refine use_spec (S_sign _ _ _ _ _ _ stK (by assumption)) rfl (by first | exact bud (by assumption) (by rfl) | exact bud0 (by assumption) (by rfl) | (dsimp only [AA]; lia)) (by first | exact bud (by assumption) (by rfl) | exact bud0 (by assumption) (by rfl) | (dsimp only [AA]; lia)) (by assumption) (by assumption) ?_; intro _ _ _ _ _ _ _ R'; obtain ⟨_, _, _, _, e', _⟩ := R'; cases e')); (try k_steps))
      unfold WPost
      refine WEnd.mk (n' := tx.length + 1 - (signAt tx u).2) F7 N7 (Nat.sub_lt_sub_left (by lia) (by lia)) ⟨_, _, le, _, _, _, _, (by repeat (first | with_reducible assumption | with_reducible exact if_pos rfl | refine (if_neg (by decide)).trans ?_ | rfl)), (by repeat (first | with_reducible assumption | with_reducible exact if_pos rfl | refine (if_neg (by decide)).trans ?_ | rfl)), (by repeat (first | with_reducible assumption | with_reducible exact if_pos rfl | refine (if_neg (by decide)).trans ?_ | rfl)), (by repeat (first | with_reducible assumption | with_reducible exact if_pos rfl | refine (if_neg (by decide)).trans ?_ | rfl)), rfl, off7, rfl,
        All2.snoc (hall.mono fun _ _ q => q.mono fun p hp => by simp [hp]) ⟨_, _, _, _, rfl, .head _⟩, by rw [List.length_append]; show vs.length + 1 ≤ _; lia, fun r x => hrun _ (.one e2 e3 x)⟩
end K_S_set
theorem S_set (w : World) (h : Heap) (tx : List Nat) (k : Nat) (t tk0 : Tok) (hS : St w h) (hT : tx.length ≤ 1000) : Spec w 130 [.str (txt tx) t, .int k tk0] 6 600 h (fun tl v => SetOut tx k tl v) :=
  spec_of fun dp un fr gd s Q E => pickAll K_S_set.ne (P := fun c => K_S_set.P (c.1) (c.2.1) (c.2.2.1) (c.2.2.2.1) (c.2.2.2.2.1) (c.2.2.2.2.2.1) (c.2.2.2.2.2.2.1) (c.2.2.2.2.2.2.2.1) (c.2.2.2.2.2.2.2.2.1) (c.2.2.2.2.2.2.2.2.2.1) (c.2.2.2.2.2.2.2.2.2.2.1) (c.2.2.2.2.2.2.2.2.2.2.2.1) (c.2.2.2.2.2.2.2.2.2.2.2.2)) K_S_set.core (w, h, tx, k, t, tk0, dp, un, fr, gd, s, Q, E) hS hT
end
end Mine
end
section
open PySem PySem.W PyProof.Rows PySem.Calls PySem.Builtin.Str
set_option Elab.async false
set_option maxRecDepth 100000
set_option maxHeartbeats 4000000
namespace Mine
theorem txt_size {l : List Nat} : (txt l).cps.size = l.length := by simp [txt]
theorem item_txt {l : List Nat} {k : Nat} {x : Nat} {r : List Nat} (h : l.drop k = x :: r) : Txt.item (txt l) (k : Int) = txt [x] := by
  have hk : k < l.length := Nat.lt_of_not_le fun z => by rw [List.drop_of_length_le z] at h; cases h
  have hx : l[k]? = some x := by
    have : (l.drop k)[0]? = some x := by rw [h]; rfl
    rw [List.getElem?_drop] at this; simpa using this
  unfold Txt.item Txt.charAt
  have e : seqIndex? (k : Int) (txt l).length = some k := by
    unfold seqIndex?
    rw [txt_length]
    simp only [show ¬ ((k : Int) < 0) by lia, if_false, Int.toNat_natCast]
    rw [if_pos (by simp; lia)]
  rw [e]
  simp [txt, hx]
/-- a sign that the ways give -/
def Safe (c : Nat) : Prop := c < 32 ∨ (128 ≤ c ∧ c < 256)
def esc (c : Nat) : List Nat := if 9 ≤ c ∧ c ≤ 13 then [92, c] else [c]
inductive Tk where
  | open | last | close | dot
  | set (neg : Bool) (a b c : Nat)
  | sign (c : Nat)
def Tk.text : Tk → List Nat
  | .open => [40, 63, 62, 46, 42, 63]
  | .last => [46, 42]
  | .close => [41]
  | .dot => [46]
  | .set neg a b c => 91 :: ((if neg then [94] else []) ++ [a, 45, b, c, 93])
  | .sign c => esc c
def flat (ts : List Tk) : List Nat := (ts.map Tk.text).flatten
def WF : Nat → List Tk → Prop
  | st, [] => st = 0 ∨ st = 3
  | st, .open :: r => (st = 0 ∨ st = 2) ∧ WF 1 r
  | st, .last :: r => (st = 0 ∨ st = 2) ∧ WF 3 r
  | st, .close :: r => st = 1 ∧ WF 2 r
  | st, .dot :: r => (st = 0 ∨ st = 1 ∨ st = 3) ∧ WF st r
  | st, .sign c :: r => (st = 0 ∨ st = 1 ∨ st = 3) ∧ Safe c ∧ WF st r
  | st, .set _ a b c :: r => (st = 0 ∨ st = 1 ∨ st = 3) ∧ (Safe a ∧ Safe b ∧ Safe c) ∧ WF st r
abbrev SPiece := Bool × List SEnd
def tkRuns : List Tk → List (List SPiece) → List SPiece → List (List SPiece)
  | [], done, cur => done ++ [cur]
  | .open :: r, done, cur => tkRuns r (done ++ [cur]) []
  | .last :: r, done, cur => tkRuns r (done ++ [cur]) []
  | .close :: r, done, cur => tkRuns r done cur
  | .dot :: r, done, cur => tkRuns r done (cur ++ [(true, [])])
  | .sign c :: r, done, cur => tkRuns r done (cur ++ [(false, [([c], [c])])])
  | .set neg a b c :: r, done, cur => tkRuns r done (cur ++ [(neg, [([a], [b]), ([c], [c])])])
theorem esc_head {c : Nat} (h : Safe c) : ∃ x r, esc c = x :: r ∧ (x = 92 ∨ (Safe x)) := by
  unfold esc
  split
  · exact ⟨_, _, rfl, .inl rfl⟩
  · exact ⟨_, _, rfl, .inr h⟩
/-- no token opens with a star -/
theorem flat_head {st : Nat} {ts : List Tk} (h : WF st ts) {tail : List Nat} : ∃ x r, flat ts ++ 41 :: tail = x :: r ∧ x ≠ 42 := by
  cases ts with
  | nil => exact ⟨41, tail, rfl, by decide⟩
  | cons t r =>
    cases t with
    | «open» => exact ⟨40, _, rfl, by decide⟩
    | last => exact ⟨46, _, rfl, by decide⟩
    | close => exact ⟨41, _, rfl, by decide⟩
    | dot => exact ⟨46, _, rfl, by decide⟩
    | set neg a b c => exact ⟨91, _, rfl, by decide⟩
    | sign c =>
      obtain ⟨x, r', e, hx⟩ := esc_head h.2.1
      refine ⟨x, r' ++ (flat r ++ 41 :: tail), ?_, ?_⟩
      · show (esc c ++ flat r) ++ _ = _
        rw [e]; simp
      · rcases hx with rfl | hx
        · decide
        · intro q; subst q; rcases hx with q | q <;> lia
theorem sl {l : List Nat} {k n : Nat} {p : List Nat} : (Txt.slice (txt l) (some (k : Int)) (some ((k : Int) + (n : Nat))) == txt p) = decide ((l.drop k).take n = p) := by
  have := slice_txt l k (k + n) (by lia)
  rw [Nat.add_sub_cancel_left] at this
  rw [← txt_beq, ← this]; push_cast; rfl
theorem s6 : Str.ofString "(?>.*?" = txt [40, 63, 62, 46, 42, 63] := by decide
theorem s2 : Str.ofString ".*" = txt [46, 42] := by decide
theorem s40 : Str.ofString "(" = txt [40] := by decide
theorem s41 : Str.ofString ")" = txt [41] := by decide
theorem s91 : Str.ofString "[" = txt [91] := by decide
theorem s46 : Str.ofString "." = txt [46] := by decide
section
variable {l : List Nat} {k x : Nat} {r : List Nat}
theorem H6f (h : l.drop k = x :: r) (hx : x ≠ 40) : (Txt.slice (txt l) (some (k : Int)) (some ((k : Int) + 6)) == Str.ofString "(?>.*?") = false := by
  rw [s6]; refine (sl (n := 6)).trans ?_
  rw [h, decide_eq_false_iff_not]; intro e; simp at e; lia
theorem H2f (h : l.drop k = x :: r) (hx : ¬ (x = 46 ∧ r.head? = some 42)) : (Txt.slice (txt l) (some (k : Int)) (some ((k : Int) + 2)) == Str.ofString ".*") = false := by
  rw [s2]; refine (sl (n := 2)).trans ?_
  rw [h, decide_eq_false_iff_not]; intro e
  cases r with
  | nil => simp at e
  | cons y r => simp at e; exact hx ⟨e.1, by simp [e.2]⟩
theorem H6t (h : l.drop k = 40 :: 63 :: 62 :: 46 :: 42 :: 63 :: r) : (Txt.slice (txt l) (some (k : Int)) (some ((k : Int) + 6)) == Str.ofString "(?>.*?") = true := by
  rw [s6]; refine (sl (n := 6)).trans ?_
  rw [h, decide_eq_true_eq]; rfl
theorem H2t (h : l.drop k = 46 :: 42 :: r) : (Txt.slice (txt l) (some (k : Int)) (some ((k : Int) + 2)) == Str.ofString ".*") = true := by
  rw [s2]; refine (sl (n := 2)).trans ?_
  rw [h, decide_eq_true_eq]; rfl
theorem HI {s : Str} {c : Nat} (hs : s = txt [c]) (h : l.drop k = x :: r) : (Txt.item (txt l) (k : Int) == s) = decide (x = c) := by
  rw [hs, item_txt h, txt_beq, Bool.eq_iff_iff, decide_eq_true_eq, decide_eq_true_eq]; simp
theorem HOall : ∀ x : Nat, x < 256 → (x < 32 ∨ 128 ≤ x ∨ x = 92 ∨ x = 91 ∨ x = 46) → (occurrences (Str.ofString "()]{}*+?|^$") (txt [x]) 0 (Str.ofString "()]{}*+?|^$").length 1).isEmpty = true := by
  decide +kernel
theorem HO (h : l.drop k = x :: r) (hx : x = 92 ∨ x = 91 ∨ x = 46 ∨ Safe x) : (occurrences (Str.ofString "()]{}*+?|^$") (Txt.item (txt l) (k : Int)) 0 (Str.ofString "()]{}*+?|^$").length 1).isEmpty = true := by
  rw [item_txt h]
  rcases hx with rfl | rfl | rfl | hx
  · exact HOall _ (by decide) (by decide)
  · exact HOall _ (by decide) (by decide)
  · exact HOall _ (by decide) (by decide)
  · rcases hx with hx | hx
    · exact HOall x (Nat.lt_trans hx (by decide)) (.inl hx)
    · exact HOall x hx.2 (.inr (.inl hx.1))
end
theorem sign_esc {tx : List Nat} {k c : Nat} {r : List Nat} (hc : Safe c) (h : tx.drop k = esc c ++ r) : signAt tx k = ([c], k + (esc c).length) := by
  have h1 : tx.drop (k + 1) = (tx.drop k).drop 1 := by rw [List.drop_drop]
  unfold signAt
  rw [h1, h]
  unfold esc
  unfold Safe at hc
  by_cases e : 9 ≤ c ∧ c ≤ 13
  · simp [e]
  · simp [e]; intro q; lia
theorem sign_one {tx : List Nat} {k c : Nat} {r : List Nat} (hc : Safe c) (h : tx.drop k = c :: r) : signAt tx k = ([c], k + 1) := by
  unfold signAt
  unfold Safe at hc
  rw [h]
  simp; intro q; lia
theorem set_run {tx : List Nat} {j a b c : Nat} {r : List Nat} (ha : Safe a) (hb : Safe b) (hc : Safe c) (h : tx.drop j = a :: 45 :: b :: c :: 93 :: r) {o : List SEnd × Nat} (hr : SetRun tx j [] o) : o = ([([a], [b]), ([c], [c])], j + 4) := by
  have d : ∀ i, tx.drop (j + i) = (a :: 45 :: b :: c :: 93 :: r).drop i := fun i => by rw [← h, List.drop_drop]
  have e1 : signAt tx j = ([a], j + 1) := sign_one ha h
  have e2 : signAt tx (j + 1 + 1) = ([b], j + 3) := sign_one hb (d 2)
  have e3 : signAt tx (j + 3) = ([c], j + 4) := sign_one hc (d 3)
  have sx : ∀ x, Safe x → ¬ (x = 93) := fun x hx e => by subst e; exact absurd hx (by unfold Safe; decide)
  have na := sx a ha
  have nc := sx c hc
  rcases hr.inv with ⟨q, _⟩ | ⟨_, _, hr⟩ | ⟨_, q2, _⟩
  · rw [h] at q; simp at q; exact absurd q na
  · rw [e1, e2] at hr
    rcases hr.inv with ⟨q, _⟩ | ⟨_, q2, _⟩ | ⟨_, _, hr⟩
    · rw [d 3] at q; simp at q; exact absurd q nc
    · rw [e3, d 4] at q2; simp at q2
    · rw [e3] at hr
      have d4 := d 4
      rcases hr.inv with ⟨_, e⟩ | ⟨q1, _, _⟩ | ⟨q1, _, _⟩
      · exact e
      · exact absurd (.inr (by rw [d4]; rfl)) q1
      · exact absurd (.inr (by rw [d4]; rfl)) q1
  · rw [e1, d 1] at q2; simp at q2
end Mine
namespace Mine
theorem lt_off {D : Nat} {xs : List (Addr × Obj)} (h : AllLt D xs) : ∀ p ∈ xs, p.1 ≠ D := by
  induction xs with
  | nil => exact fun _ q => nomatch q
  | cons a r ih =>
    intro p hp
    rcases List.mem_cons.mp hp with rfl | hp
    · exact Nat.ne_of_lt h.1
    · exact ih h.2 p hp
section
variable {prog : Program} {w : World} {A : Around} {E : Value → Shared → Prop} {s : Shared} {h₀ : Heap} {L : Addr} {m : Str → Option Value}
theorem append_pre2 {D : Addr} {vs : List Value} {n : Nat} {x : Value} {pre post : List (Addr × Obj)} {Q : Value → Shared → Prop} (F : Fr h₀ L s.heap m) (N : News h₀ L s.heap (pre ++ (D, W.listOf vs.toArray n) :: post)) (offp : ∀ p ∈ pre, p.1 ≠ D) (off : ∀ p ∈ post, p.1 ≠ D) (hsz : vs.length ≤ 100000)
    (k : ∀ h', Fr h₀ L h' m → News h₀ L h' ((D, W.listOf (vs ++ [x]).toArray (n + 1)) :: (pre ++ post)) → (∀ p ∈ pre ++ post, p.1 ≠ D) → Q .none { s with heap := h' }) :
    wpAny (model prog w) A (call (.builtin "list.append") [.ref D, x]) Q E s := by
  have offa : ∀ p ∈ pre ++ post, p.1 ≠ D := off_app offp off
  refine append_own F (rest := pre ++ post) (fun p hp => N p ?_) offa hsz fun h' a b => k h' a b offa
  rcases List.mem_cons.mp hp with rfl | hp
  · simp
  · rcases List.mem_append.mp hp with hp | hp <;> simp [hp]
end
theorem tk_pos {t : Tk} : 1 ≤ t.text.length := by
  cases t with
  | sign c => show 1 ≤ (esc c).length; unfold esc; split <;> simp
  | _ => simp [Tk.text]
theorem drop_text {tx a r : List Nat} {k : Nat} (h : tx.drop k = a ++ r) : tx.drop (k + a.length) = r := by
  rw [← List.drop_drop, h, List.drop_left]
end Mine
end
section
open PySem PySem.W PyProof.Rows PySem.Calls
set_option Elab.async false
set_option maxRecDepth 100000
set_option maxHeartbeats 4000000
namespace Mine
section
variable {prog : Program} {w : World} {A : Around} {E : Value → Shared → Prop} {s : Shared} {env : Env} {h₀ : Heap} {L : Addr} {m : Str → Option Value} {news : List (Addr × Obj)}
/-- where a test ends -/
def TEnd (h₀ : Heap) (L : Addr) (m : Str → Option Value) (news : List (Addr × Obj)) (s : Shared) (b b' : Bool) (s' : Shared) : Prop := b' = b ∧ ∃ h' tk', s' = { s with heap := h', toks := tk' } ∧ Fr h₀ L h' m ∧ News h₀ L h' news
theorem TEnd.mk {b b' : Bool} {h' : Heap} {tk' : Nat} {all : List (Addr × Obj)} (e : b' = b) (F : Fr h₀ L h' m) (N : News h₀ L h' all) (k : ∀ p ∈ news, p ∈ all) : TEnd h₀ L m news s b b' { s with heap := h', toks := tk' } :=
  ⟨e, h', tk', rfl, F, fun p hp => N p (k p hp)⟩
theorem if_cut {test : Expr} {body orelse : List Stmt} {pos : Pos} {Q : Flow → Shared → Prop} (b : Bool) (_F : Fr h₀ L s.heap m) (_N : News h₀ L s.heap news)
    (front : wpAny (model prog w) A (isTrue test env (eval test env)) (TEnd h₀ L m news s b) E s)
    (tail : ∀ h' tk', Fr h₀ L h' m → News h₀ L h' news → wpAny (model prog w) A (execs (if b = true then body else orelse) env) Q E { s with heap := h', toks := tk' }) :
    wpAny (model prog w) A (exec (.If test body orelse pos) env) Q E s := by
  refine wpAny_If (wpAny_mono front (fun b' s' h => ?_) fun _ _ e => e)
  obtain ⟨rfl, h', tk', rfl, F, N⟩ := h
  have := tail h' tk' F N
  cases b' <;> simpa using this
end
end Mine
namespace Mine
theorem nperm4 {h₀ h : Heap} {L : Addr} {x a b c e : Addr × Obj} {post : List (Addr × Obj)} (N : News h₀ L h (x :: ([a, b, c, e] ++ post))) : News h₀ L h (e :: x :: (a :: b :: c :: post)) := fun p hp => N p (sub_cons (by k_mem) (sub_cons (by k_mem) (sub_cons (by k_mem) (sub_cons (by k_mem) (sub_cons (by k_mem) fun q hq => .tail _ (.tail _ (.tail _ (.tail _ (.tail _ hq)))))))) p hp)
theorem nperm1 {h₀ h : Heap} {L : Addr} {x e : Addr × Obj} {post : List (Addr × Obj)} (N : News h₀ L h (x :: ([e] ++ post))) : News h₀ L h (e :: x :: post) := fun p hp => N p (by
  simp only [List.mem_cons, List.cons_append, List.nil_append] at hp ⊢
  rcases hp with hp | hp | hp <;> simp [hp])
end Mine
end
section
open PySem PySem.W PyProof.Rows PySem.Calls
set_option Elab.async false
set_option maxRecDepth 100000
set_option maxHeartbeats 4000000
namespace Mine
/-- the code of the lambda stands, whatever the heap -/
def CdOk (h₀ : Heap) (L : Addr) (news : List (Addr × Obj)) (c' : Addr) (qual : Str) : Prop := ∀ h m, Fr h₀ L h m → News h₀ L h news → h.CodeRec (.ref c') qual
theorem CdOk.mono {h₀ : Heap} {L : Addr} {a b : List (Addr × Obj)} {c' : Addr} {qual : Str} (x : CdOk h₀ L a c' qual) (k : ∀ p ∈ a, p ∈ b) : CdOk h₀ L b c' qual := fun h m F N => x h m F fun p hp => N p (k p hp)
def TabOk (h₀ : Heap) (L : Addr) (rest : List (Addr × Obj)) (ln col : Nat) (qual : Str) (o : Obj) : Prop := o = tabObj #[] ∨ ∃ c', o = tabObj (#[] ++ #[rawInt ln, rawInt col, .ref c']) ∧ CdOk h₀ L rest c' qual
theorem TabOk.mono {h₀ : Heap} {L : Addr} {a b : List (Addr × Obj)} {ln col : Nat} {qual : Str} {o : Obj} (x : TabOk h₀ L a ln col qual o) (k : ∀ p ∈ a, p ∈ b) : TabOk h₀ L b ln col qual o :=
  x.elim .inl fun ⟨c', e, y⟩ => .inr ⟨c', e, y.mono k⟩
def TabV (P : Addr) (ln col : Nat) (qual : Str) (h : Heap) (o : Obj) : Prop := o = tabObj #[] ∨ ∃ c', o = tabObj (#[] ++ #[rawInt ln, rawInt col, .ref c']) ∧ c' ≠ P ∧ h.CodeRec (.ref c') qual
theorem TabV.keeps {P : Addr} {ln col : Nat} {qual : Str} (h h' : Heap) (o : Obj) (k : ∀ b x, b ≠ P → h.get? b = some x → h'.get? b = some x) (x : TabV P ln col qual h o) : TabV P ln col qual h' o := by
  rcases x with x | ⟨c', e, hne, c₂, oc, vs, t, e2, hoc, r⟩
  · exact .inl x
  · cases e2; exact .inr ⟨c', e, hne, c', oc, vs, t, rfl, k _ _ hne hoc, r⟩
theorem TabV.ok {P L : Addr} {ln col : Nat} {qual : Str} {g : Heap} {o : Obj} (x : TabV P ln col qual g o) : TabOk g L [] ln col qual o := by
  rcases x with x | ⟨c', e, hne, c₂, oc, vs, t, e2, hoc, r⟩
  · exact .inl x
  · exact .inr ⟨c', e, fun h m F N => ⟨c₂, oc, vs, t, e2, F.keep _ _ hoc, r⟩⟩
theorem TabOk.v {P L : Addr} {ln col : Nat} {qual : Str} {g h : Heap} {m : Str → Option Value} {rest : List (Addr × Obj)} {o : Obj} (x : TabOk g L rest ln col qual o) (F : Fr g L h m) (N : News g L h ((P, o) :: rest)) : TabV P ln col qual h o := by
  rcases x with x | ⟨c', e, y⟩
  · exact .inl x
  · have hc := y h m F fun p hp => N p (.tail _ hp)
    refine .inr ⟨c', e, fun q => ?_, hc⟩
    obtain ⟨c₂, oc, vs, t, e2, hoc, hd, hv⟩ := hc
    cases e2
    have := (N _ (.head _)).1
    rw [q] at hoc
    rw [this] at hoc
    cases hoc
    rw [e] at hd
    cases hd
    cases hv
section
variable {M : Model} {A : Around} {E : Value → Shared → Prop} {s : Shared} {h₀ : Heap} {L a c P : Addr} {m mg mb : Str → Option Value} {cn : Str} {cs : Scope} {ccd : Value} {cl : List (Str × Addr)} {rest : List (Addr × Obj)}
  {p : Program} {loose : List Str} {mean : ExcName → Option Value} {name qual : Str} {params : Arguments} {body : Expr} {scope : Scope} {pos : Pos} {firstLine : Nat} {clos : List (Str × Addr)} {o : Obj} {rest0 : List (Addr × Obj)}
theorem lam_step {Q : Value → Shared → Prop} (F : Fr h₀ L s.heap m) (N : News h₀ L s.heap ((P, o) :: rest)) (T : Top p loose mean mg mb h₀) (C : CodeHd h₀ c P) (hcd : ccd = .ref c) (V : TabOk h₀ L rest0 pos.line pos.col qual o) (off : ∀ q ∈ rest, q.1 ≠ P)
    (hcl : closureFor scope (envX cn cs L a ccd cl) = pure clos)
    (h : ∀ f c' ctv h' tk xs, Fr h₀ L h' m →
      News h₀ L h' ((f, kla_obj name qual params body scope clos ((mg "__name__").getD .none) c' ctv) :: (P, tabObj (#[] ++ #[rawInt pos.line, rawInt pos.col, .ref c'])) :: (rest ++ xs)) →
      (∀ q ∈ (P, o) :: rest, q.1 < f) → (∀ q ∈ (P, o) :: rest, ∀ x ∈ xs, q.1 < x.1) → (∀ x ∈ xs, x.1 < f) → CdOk h₀ L (rest0 ++ xs) c' qual → Q (.ref f) { s with heap := h', toks := tk }) :
    wpAny M A (makeFunction name qual params (.expr body) scope (envX cn cs L a ccd cl) [] [] [] pos firstLine) Q E s := by
  rcases V with rfl | ⟨c', rfl, y⟩
  · refine kla_nest (ps := #[]) F N T C hcd (.head off) trivial rfl hcl fun f c' oc vs t ctv h' tk F' N' hd hv l1 l2 => ?_
    refine h f c' ctv h' tk [(c', oc)] F' (fun q hq => N' q ?_) (fun q hq => Nat.lt_trans (l1 q hq) l2) (fun q hq x hx => by rw [List.mem_singleton.mp hx]; exact l1 q hq) (fun x hx => by rw [List.mem_singleton.mp hx]; exact l2)
      fun h m F N => codeRec_news N (List.mem_append_right _ (.head _)) hd hv
    simp only [List.mem_cons, List.mem_append, List.not_mem_nil, or_false] at hq ⊢
    rcases hq with hq | hq | hq | hq <;> simp [hq]
  · refine kla_hit (c' := c') (ps := #[] ++ #[rawInt pos.line, rawInt pos.col, .ref c']) F N T C hcd (.head _) trivial ?_ hcl fun f ctv h' tk F' N' l1 => ?_
    · show (if (((pos.line : Nat) : Int) == (pos.line : Nat) && ((pos.col : Nat) : Int) == (pos.col : Nat)) = true then some (Value.ref c') else _) = _
      simp
    · exact h f c' ctv h' tk [] F' (by rw [List.append_nil]; exact N') l1 (fun _ _ _ hx => nomatch hx) (fun _ hx => nomatch hx) (y.mono fun p hp => by simpa using hp)
end
section
variable {prog : Program} {w : World} {A : Around} {E : Value → Shared → Prop} {s : Shared} {h₀ : Heap} {L f c' C : Addr} {m mg mb : Str → Option Value} {news : List (Addr × Obj)} {p : Program} {loose : List Str} {mean : ExcName → Option Value}
  {name qual : Str} {params : Arguments} {scope : Scope} {p1 p2 p3 : Pos} {pm ctv : Value} {oC : Obj}
theorem lam_call {size a : Nat} {ts ta : Tok} (F : Fr h₀ L s.heap m) (N : News h₀ L s.heap news) (T : Top p loose mean mg mb h₀)
    (hf : (f, kla_obj name qual params (.BinOp (.Name (Str.ofString "code") p1) .Mod (.Name (Str.ofString "size") p2) p3) scope [(Str.ofString "size", C)] pm c' ctv) ∈ news)
    (hcd : s.heap.CodeRec (.ref c') qual) (hC : (C, oC) ∈ news) (hoC : oC.data = .cell (some (.int size ts))) (hsz : size ≠ 0) (hroom : A.depth < recursionLimit)
    (hsc : scope = { kind := .function, names := [(Str.ofString "code", .local), (Str.ofString "size", .free)], isGenerator := false, isCoroutine := false })
    (hbind : bindArgs (kla_fn name qual params (.BinOp (.Name (Str.ofString "code") p1) .Mod (.Name (Str.ofString "size") p2) p3) scope [(Str.ofString "size", C)] pm (.ref c') ctv) ⟨[.int (a : Int) ta], []⟩ = pure [(Str.ofString "code", .int (a : Int) ta)]) :
    wpAny (model prog w) A (call (.ref f) [.int (a : Int) ta]) (KskEnd h₀ L m news ((a % size : Nat) : Int) s) (fun _ _ => False) s := by
  subst hsc
  refine wpAny_call (kla_callFunE hroom (N _ hf).1 rfl rfl rfl rfl hcd ?_)
  rw [hbind]
  refine wpAny_pure (wpAny_newFunctionEnv (show ∀ x ∈ ([(Str.ofString "code", NameKind.local), (Str.ofString "size", NameKind.free)] : List (Str × NameKind)), x.2 ≠ .cell from by decide) (by intro x hx; rw [List.mem_singleton.mp hx]; rfl) (fun h₁ hns hsb => ⟨((T.nolimit).keeps F.keep).fresh _ hsb, ?_⟩) rfl)
  have hk₁ : ∀ b o, s.heap.get? b = some o → h₁.get? b = some o := fun b o e => hsb.extBut b o (Nat.ne_of_lt (Heap.lt_size e)) (Heap.get?_push_of_some _ e)
  refine kla_codeExpr (wpAny_BinOp ?_)
  refine wpAny_Name (wpAny_loadName_local rfl rfl hns rfl ?_) (by decide)
  refine wpAny_Name (wpAny_loadName_free rfl rfl (c := C) rfl ⟨oC, hk₁ _ _ (N _ hC).1, hoC⟩ ?_ (by decide)) (by decide)
  refine mod_int' (by lia) ?_
  show KskEnd h₀ L m news ((a % size : Nat) : Int) s (.int ((a : Int).fmod (size : Int)) _) _
  rw [natmod]
  exact ⟨_, _, _, rfl, rfl, fr_after F hk₁, fun q hq => ⟨hk₁ _ _ (N q hq).1, (N q hq).2⟩⟩
/-- two codes, put in order -/
theorem lam_sort {l : Addr} {size a b : Nat} {ts ta tb : Tok} {Q : Value → Shared → Prop} (F : Fr h₀ L s.heap m) (N : News h₀ L s.heap news) (T : Top p loose mean mg mb h₀)
    (hl : s.heap.IsList l #[.int (a : Int) ta, .int (b : Int) tb])
    (hf : (f, kla_obj name qual params (.BinOp (.Name (Str.ofString "code") p1) .Mod (.Name (Str.ofString "size") p2) p3) scope [(Str.ofString "size", C)] pm c' ctv) ∈ news)
    (hcd : CdOk h₀ L news c' qual) (hC : (C, oC) ∈ news) (hoC : oC.data = .cell (some (.int size ts))) (hsz : size ≠ 0) (hroom : A.depth < recursionLimit)
    (hsc : scope = { kind := .function, names := [(Str.ofString "code", .local), (Str.ofString "size", .free)], isGenerator := false, isCoroutine := false })
    (hbind : ∀ v, bindArgs (kla_fn name qual params (.BinOp (.Name (Str.ofString "code") p1) .Mod (.Name (Str.ofString "size") p2) p3) scope [(Str.ofString "size", C)] pm (.ref c') ctv) ⟨[v], []⟩ = pure [(Str.ofString "code", v)])
    (h : ∀ D c h' tk (x y : Nat) (tx ty : Tok), (x = a ∧ y = b ∧ a % size ≤ b % size) ∨ (x = b ∧ y = a ∧ b % size ≤ a % size) → Fr h₀ L h' m → News h₀ L h' ((D, PySem.W.listOf #[.int (x : Int) tx, .int (y : Int) ty] c) :: news) → (∀ q ∈ news, q.1 < D) → Q (.ref D) { s with heap := h', toks := tk }) :
    wpAny (model prog w) A (call (.builtin "sorted") [.ref l] [(Str.ofString "key", .ref f)]) Q E s := by
  refine ksk_two (b := false) ((a % size : Nat) : Int) ((b % size : Nat) : Int) F N hl (ksk_s1 _ _) (fun x => ksk_l1 _ _) (fun x => ksk_t1 _ _) (fun h1 tk1 own F1 N1 => ?_) (fun h1 tk1 own F1 N1 => ?_) (fun r D c h' tk F' N' l1 => ?_) (fun r D c h' tk F' N' l1 => ?_)
  · exact lam_call F1 N1 T (List.mem_append_left _ hf) (hcd.mono (fun p hp => List.mem_append_left _ hp) _ _ F1 N1) (List.mem_append_left _ hC) hoC hsz hroom hsc (hbind _)
  · exact lam_call F1 N1 T (List.mem_append_left _ hf) (hcd.mono (fun p hp => List.mem_append_left _ hp) _ _ F1 N1) (List.mem_append_left _ hC) hoC hsz hroom hsc (hbind _)
  · exact h D c h' tk a b ta tb (.inl ⟨rfl, rfl, Int.ofNat_le.mp (show ((a % size : Nat) : Int) ≤ ((b % size : Nat) : Int) from r)⟩) F' N' l1
  · exact h D c h' tk b a tb ta (.inr ⟨rfl, rfl, Int.ofNat_le.mp (show ((b % size : Nat) : Int) ≤ ((a % size : Nat) : Int) from r)⟩) F' N' l1
theorem lam_sort1 {l : Addr} {size a : Nat} {ts ta : Tok} {Q : Value → Shared → Prop} (F : Fr h₀ L s.heap m) (N : News h₀ L s.heap news) (T : Top p loose mean mg mb h₀)
    (hl : s.heap.IsList l #[.int (a : Int) ta])
    (hf : (f, kla_obj name qual params (.BinOp (.Name (Str.ofString "code") p1) .Mod (.Name (Str.ofString "size") p2) p3) scope [(Str.ofString "size", C)] pm c' ctv) ∈ news)
    (hcd : CdOk h₀ L news c' qual) (hC : (C, oC) ∈ news) (hoC : oC.data = .cell (some (.int size ts))) (hsz : size ≠ 0) (hroom : A.depth < recursionLimit)
    (hsc : scope = { kind := .function, names := [(Str.ofString "code", .local), (Str.ofString "size", .free)], isGenerator := false, isCoroutine := false })
    (hbind : ∀ v, bindArgs (kla_fn name qual params (.BinOp (.Name (Str.ofString "code") p1) .Mod (.Name (Str.ofString "size") p2) p3) scope [(Str.ofString "size", C)] pm (.ref c') ctv) ⟨[v], []⟩ = pure [(Str.ofString "code", v)])
    (h : ∀ D c h' tk, Fr h₀ L h' m → News h₀ L h' ((D, PySem.W.listOf #[.int (a : Int) ta] c) :: news) → (∀ q ∈ news, q.1 < D) → Q (.ref D) { s with heap := h', toks := tk }) :
    wpAny (model prog w) A (call (.builtin "sorted") [.ref l] [(Str.ofString "key", .ref f)]) Q E s := by
  refine ksk_sorted (b := false) (vs := [.int (a : Int) ta]) (kz := [((a % size : Nat) : Int)]) F N hl rfl (Nat.le_of_ble_eq_true rfl) (ksk_s1 _ _) (fun x => ksk_l1 _ _) (fun x => ksk_t1 _ _) (fun i v k hv hk h1 tk1 own F1 N1 => ?_) fun D h' tk out c F' N' l1 ko => ?_
  · rcases i with _ | i
    · have e1 : some (Value.int (a : Int) ta) = some v := hv
      have e2 : some ((a % size : Nat) : Int) = some k := hk
      cases e1
      cases e2
      exact lam_call F1 N1 T (List.mem_append_left _ hf) (hcd.mono (fun p hp => List.mem_append_left _ hp) _ _ F1 N1) (List.mem_append_left _ hC) hoC hsz hroom hsc (hbind _)
    · exact absurd hv (by simp)
  · obtain ⟨ps, hp, ho, hs⟩ := ko
    have hp' : ps.Perm [(((a % size : Nat) : Int), Value.int (a : Int) ta)] := hp
    rw [List.perm_singleton.mp hp'] at ho
    have e : out = #[Value.int (a : Int) ta] := Array.toList_inj.mp (ho.trans rfl)
    rw [e] at N'
    exact h D c h' tk F' N' l1
theorem lam_sort0 {l : Addr} {Q : Value → Shared → Prop} (F : Fr h₀ L s.heap m) (N : News h₀ L s.heap news) (hl : s.heap.IsList l #[])
    (h : ∀ D c h' tk, Fr h₀ L h' m → News h₀ L h' ((D, PySem.W.listOf #[] c) :: news) → (∀ q ∈ news, q.1 < D) → Q (.ref D) { s with heap := h', toks := tk }) :
    wpAny (model prog w) A (call (.builtin "sorted") [.ref l] [(Str.ofString "key", .ref f)]) Q E s := by
  refine ksk_sorted (b := false) (vs := []) (kz := []) F N hl rfl (Nat.le_of_ble_eq_true rfl) (ksk_s1 _ _) (fun x => ksk_l1 _ _) (fun x => ksk_t1 _ _) (fun i v k hv hk h1 tk1 own F1 N1 => absurd hv (by simp)) fun D h' tk out c F' N' l1 ko => ?_
  obtain ⟨ps, hp, ho, hs⟩ := ko
  have hp' : ps.Perm [] := hp
  rw [List.perm_nil.mp hp'] at ho
  have e : out = #[] := Array.toList_inj.mp (ho.trans rfl)
  rw [e] at N'
  exact h D c h' tk F' N' l1
end
end Mine
end
section
open PySem PySem.W PyProof.Rows PySem.Calls
open PyProof.Rows.LCg (NsObj ns_obj lst lst_snoc SrcAt)
set_option Elab.async false
set_option maxRecDepth 100000
set_option maxHeartbeats 4000000
namespace Mine
section
variable {prog : Program} {w : World} {A : Around} {E : Value → Shared → Prop} {s : Shared} {env : Env} {h₀ : Heap} {L : Addr} {m : Str → Option Value}

def CTurn0 (prog : Program) (w : World) (A : Around) (h₀ : Heap) (L : Addr) (m : Str → Option Value) (env : Env) (scope : Scope) (cl : List (Str × Addr)) (elt target : Expr) (it : Value) (s₂ : Shared)
    (J : Nat → List Value → List (Addr × Obj) → Prop) (Fin : List Value → List (Addr × Obj) → Prop) : Prop :=
  ∀ n ys news C oC D h tk, J n ys news → CS h₀ L m C oC D ys news h →
    wpAny (model prog w) A (pyNext it) (fun r s₁ => match r with
      | none => CEnd h₀ L m C D ys s₂ (Fin ys) s₁
      | some v => wpAny (model prog w) A (assign target (compEnvC scope cl C env) v) (fun _ s₃ =>
            wpAny (model prog w) A (eval elt (compEnvC scope cl C env)) (fun y s₅ => CEnd h₀ L m C D ys s₂ (fun news' => ∃ n', n' < n ∧ J n' (ys ++ [y]) news') s₅) FF s₃) FF s₁) FF { s₂ with heap := h, toks := tk }

structure CPkg0 (prog : Program) (w : World) (A : Around) (h₀ : Heap) (L : Addr) (m : Str → Option Value) (env : Env) (scope : Scope) (cl : List (Str × Addr)) (elt target : Expr) (Fin : List Value → List (Addr × Obj) → Prop) (it : Value) (s₂ : Shared) (news : List (Addr × Obj)) (n : Nat)
    (J : Nat → List Value → List (Addr × Obj) → Prop) : Prop where
  F : Fr h₀ L s₂.heap m
  N : News h₀ L s₂.heap news
  start : J n [] news
  len : ∀ n ys news, J n ys news → ys.length ≤ sizeLine
  ht : ∀ v, letOwnedTupleGo target it v = pure ()
  self : ∀ h tk, News h₀ L h news → wpAny (model prog w) A (pyIter it) (fun it' s' => it' = it ∧ s' = { s₂ with heap := h, toks := tk }) FF { s₂ with heap := h, toks := tk }
  turn : CTurn0 prog w A h₀ L m env scope cl elt target it s₂ J Fin

def K_comp_core0.P (elt : Expr) (target : Expr) (iter : Expr) (scope : Scope) (cl : List (Str × Addr)) (pos : Pos) (Fin : List Value → List (Addr × Obj) → Prop) (it : Value) (s₂ : Shared) (news : List (Addr × Obj)) (n : Nat) (J : Nat → List Value → List (Addr × Obj) → Prop) (RR : Value → Addr → Result → Shared → Prop) : Prop :=
  ∀ (hcell : ∀ y ∈ scope.names, y.2 ≠ .cell) (hkind : scope.kind = .function) (P : CPkg0 prog w A h₀ L m env scope cl elt target Fin it s₂ news n J) (hRR : ∀ C oC D ys news' h tk, CS h₀ L m C oC D ys news' h → Fin ys news' → RR (.ref D) C (.ok .next) { s₂ with heap := h, toks := tk }), wpAny (model prog w) A (newList []) (fun acc s₃ => wpAny (model prog w) A (newFunctionEnv scope env.globals cl [] env.qual none .none (some env)) (fun cenv s₄ =>
      codeAny (model prog w) A (.compStart (.ListComp elt [⟨target, iter, [], 0⟩] scope pos) 0 it acc { cenv with scope := relabel scope env }) (RR acc cenv.locals) s₄) E s₃) E s₂
end
namespace K_comp_core0
theorem ne : Nonempty ((Program) × (World) × (Around) × (Value → Shared → Prop) × (Env) × (Heap) × (Addr) × (Str → Option Value) × (Expr) × (Expr) × (Expr) × (Scope) × (List (Str × Addr)) × (Pos) × (List Value → List (Addr × Obj) → Prop) × (Value) × (Shared) × (List (Addr × Obj)) × (Nat) × (Nat → List Value → List (Addr × Obj) → Prop) × (Value → Addr → Result → Shared → Prop)) := ⟨(Classical.ofNonempty, w0, ⟨none, 0, none, none, 0⟩, Classical.ofNonempty, Classical.ofNonempty, Classical.ofNonempty, Classical.ofNonempty, Classical.ofNonempty, Classical.ofNonempty, Classical.ofNonempty, Classical.ofNonempty, Classical.ofNonempty, Classical.ofNonempty, Classical.ofNonempty, Classical.ofNonempty, Classical.ofNonempty, {}, Classical.ofNonempty, Classical.ofNonempty, Classical.ofNonempty, Classical.ofNonempty)⟩
noncomputable def κ : (Program) × (World) × (Around) × (Value → Shared → Prop) × (Env) × (Heap) × (Addr) × (Str → Option Value) × (Expr) × (Expr) × (Expr) × (Scope) × (List (Str × Addr)) × (Pos) × (List Value → List (Addr × Obj) → Prop) × (Value) × (Shared) × (List (Addr × Obj)) × (Nat) × (Nat → List Value → List (Addr × Obj) → Prop) × (Value → Addr → Result → Shared → Prop) := pick ne fun c => ¬ @P (c.1) (c.2.1) (c.2.2.1) (c.2.2.2.1) (c.2.2.2.2.1) (c.2.2.2.2.2.1) (c.2.2.2.2.2.2.1) (c.2.2.2.2.2.2.2.1) (c.2.2.2.2.2.2.2.2.1) (c.2.2.2.2.2.2.2.2.2.1) (c.2.2.2.2.2.2.2.2.2.2.1) (c.2.2.2.2.2.2.2.2.2.2.2.1) (c.2.2.2.2.2.2.2.2.2.2.2.2.1) (c.2.2.2.2.2.2.2.2.2.2.2.2.2.1) (c.2.2.2.2.2.2.2.2.2.2.2.2.2.2.1) (c.2.2.2.2.2.2.2.2.2.2.2.2.2.2.2.1) (c.2.2.2.2.2.2.2.2.2.2.2.2.2.2.2.2.1) (c.2.2.2.2.2.2.2.2.2.2.2.2.2.2.2.2.2.1) (c.2.2.2.2.2.2.2.2.2.2.2.2.2.2.2.2.2.2.1) (c.2.2.2.2.2.2.2.2.2.2.2.2.2.2.2.2.2.2.2.1) (c.2.2.2.2.2.2.2.2.2.2.2.2.2.2.2.2.2.2.2.2)
noncomputable def prog : Program := κ.1
noncomputable def w : World := κ.2.1
noncomputable def A : Around := κ.2.2.1
noncomputable def E : Value → Shared → Prop := κ.2.2.2.1
noncomputable def env : Env := κ.2.2.2.2.1
noncomputable def h₀ : Heap := κ.2.2.2.2.2.1
noncomputable def L : Addr := κ.2.2.2.2.2.2.1
noncomputable def m : Str → Option Value := κ.2.2.2.2.2.2.2.1
noncomputable def elt : Expr := κ.2.2.2.2.2.2.2.2.1
noncomputable def target : Expr := κ.2.2.2.2.2.2.2.2.2.1
noncomputable def iter : Expr := κ.2.2.2.2.2.2.2.2.2.2.1
noncomputable def scope : Scope := κ.2.2.2.2.2.2.2.2.2.2.2.1
noncomputable def cl : List (Str × Addr) := κ.2.2.2.2.2.2.2.2.2.2.2.2.1
noncomputable def pos : Pos := κ.2.2.2.2.2.2.2.2.2.2.2.2.2.1
noncomputable def Fin : List Value → List (Addr × Obj) → Prop := κ.2.2.2.2.2.2.2.2.2.2.2.2.2.2.1
noncomputable def it : Value := κ.2.2.2.2.2.2.2.2.2.2.2.2.2.2.2.1
noncomputable def s₂ : Shared := κ.2.2.2.2.2.2.2.2.2.2.2.2.2.2.2.2.1
noncomputable def news : List (Addr × Obj) := κ.2.2.2.2.2.2.2.2.2.2.2.2.2.2.2.2.2.1
noncomputable def n : Nat := κ.2.2.2.2.2.2.2.2.2.2.2.2.2.2.2.2.2.2.1
noncomputable def J : Nat → List Value → List (Addr × Obj) → Prop := κ.2.2.2.2.2.2.2.2.2.2.2.2.2.2.2.2.2.2.2.1
noncomputable def RR : Value → Addr → Result → Shared → Prop := κ.2.2.2.2.2.2.2.2.2.2.2.2.2.2.2.2.2.2.2.2
theorem core : @P prog w A E env h₀ L m elt target iter scope cl pos Fin it s₂ news n J RR := by
  intro hcell hkind P hRR
  obtain ⟨F, N, hJ, hlen, hlt, hself, turn⟩ := P
  refine wpAny_newObj_type (wpAny_newFunctionEnv hcell (by intro y hy; simp at hy) (fun h₁ hns₁ hsb₁ => ?_) hkind)
  dsimp only at hns₁ hsb₁ ⊢
  generalize hH2 : s₂.heap.push { cls := .type "list", dict := none, data := .seq ([] : List Value).toArray } = H2 at hns₁ hsb₁ ⊢
  have hC : H2.objs.size = s₂.heap.objs.size + 1 := by rw [← hH2, Heap.size_push]
  have hCD : H2.objs.size ≠ s₂.heap.objs.size := Nat.ne_of_gt (by rw [hC]; exact Nat.lt_succ_self _)
  have lowD : ∀ b o, s₂.heap.get? b = some o → b ≠ s₂.heap.objs.size ∧ b ≠ H2.objs.size := fun b o e => by
    have := Heap.lt_size e
    exact ⟨Nat.ne_of_lt this, Nat.ne_of_lt (by rw [hC]; exact Nat.lt_succ_of_lt this)⟩
  have k1 : Kp s₂.heap h₁ := fun b o e => hsb₁.extBut b o (lowD b o e).2 (Heap.get?_push_of_some _ (hH2 ▸ Heap.get?_push_of_some _ e))
  have fresh : ∀ a, s₂.heap.objs.size ≤ a → h₀.get? a = none := fun a ha => by
    cases e : h₀.get? a with
    | none => rfl
    | some o => exact absurd (Heap.lt_size (F.keep a o e)) (Nat.not_lt.mpr ha)
  have hLlt : L < s₂.heap.objs.size := F.ns.lt
  have hD₁ : h₁.get? s₂.heap.objs.size = some (lst []) := hsb₁.extBut _ _ (Ne.symm hCD) (Heap.get?_push_of_some _ (hH2 ▸ Heap.get?_push_size _ rfl))
  obtain ⟨oC, heC, hoC⟩ := ns_obj hns₁
  have CS₁ : CS h₀ L m H2.objs.size oC s₂.heap.objs.size [] news h₁ :=
    ⟨F.keeps k1, fun p hp => by
      rcases List.mem_cons.mp hp with rfl | hp
      · exact ⟨heC, Nat.ne_of_gt (by show L < H2.objs.size; rw [hC]; exact Nat.lt_succ_of_lt hLlt), fresh _ (by rw [hC]; exact Nat.le_succ _)⟩
      · rcases List.mem_cons.mp hp with rfl | hp
        · exact ⟨hD₁, Nat.ne_of_gt hLlt, fresh _ (Nat.le_refl _)⟩
        · exact ⟨k1 _ _ (N p hp).1, (N p hp).2⟩,
     fun p hp => ⟨(lowD _ _ (N p hp).1).2, (lowD _ _ (N p hp).1).1⟩, hCD, ⟨_, hoC⟩⟩
  have loop : ∀ tk₁, codeAny (model prog w) A (.compLoop (.ListComp elt [⟨target, iter, [], 0⟩] scope pos) 0 it (.ref s₂.heap.objs.size) (compEnvC scope cl H2.objs.size env))
      (RR (.ref s₂.heap.objs.size) H2.objs.size) { s₂ with heap := h₁, toks := tk₁ } := fun tk₁ => by
    refine codeAny_compLoop_list (fun k s' => ∃ h' tk' oC' ys news', s' = { s₂ with heap := h', toks := tk' } ∧ CS h₀ L m H2.objs.size oC' s₂.heap.objs.size ys news' h' ∧ J k ys news') ?_ n ⟨h₁, tk₁, oC, [], news, rfl, CS₁, hJ⟩ hlt
    intro k s' hq1
    (try k_fold)
    obtain ⟨h', tk', oC', ys, news', rfl, cs, hJ'⟩ := hq1
    refine wpAny_noRaise (wpAny_mono (turn k ys news' _ oC' _ h' tk' hJ' cs) (fun r s₃ h₃ => ?_) fun _ _ e => e.elim)
    cases r with
    | none =>
      obtain ⟨h4, tk4, oC4, news4, rfl, cs4, hF⟩ := h₃
      exact hRR _ _ _ _ _ _ _ cs4 hF
    | some v =>
      refine wpAny_noRaise (wpAny_mono h₃ (fun _ s5 h5 => ?_) fun _ _ e => e.elim)
      refine wpAny_noRaise (wpAny_mono h5 (fun y s7 h7 => ?_) fun _ _ e => e.elim)
      · obtain ⟨h7, tk7, oC7, news7, rfl, cs7, n', hn', hJ7⟩ := h7
        have zD := cs7.N (s₂.heap.objs.size, lst ys) (List.mem_cons_of_mem _ List.mem_cons_self)
        have zC := cs7.N _ List.mem_cons_self
        refine append_at (hsz := by show ys.toArray.size ≤ sizeLine; rw [List.size_toArray]; exact hlen _ _ _ hJ') zD.1 fun h8 hs8 hD8 => ?_
        refine ⟨n', hn', h8, tk7, oC7, ys ++ [y], news7, rfl, ⟨cs7.F.change hs8 zD.2.1 zD.2.2, fun p hp => ?_, cs7.off, cs7.cd, cs7.ns⟩, hJ7⟩
        rcases List.mem_cons.mp hp with rfl | hp
        · exact ⟨(hs8.2 _ cs7.cd).trans zC.1, zC.2⟩
        · rcases List.mem_cons.mp hp with rfl | hp
          · exact ⟨hD8.trans (congrArg some (lst_snoc ys y)), zD.2⟩
          · have z := cs7.N p (List.mem_cons_of_mem _ (List.mem_cons_of_mem _ hp))
            exact ⟨(hs8.2 _ (cs7.off p hp).2).trans z.1, z.2⟩
  have N₁ : News h₀ L h₁ news := fun p hp => CS₁.N p (List.mem_cons_of_mem _ (List.mem_cons_of_mem _ hp))
  refine codeAny_compStart_list (loop _) (wpAny_noRaise (wpAny_mono (hself h₁ _ N₁) (fun it' s' q => ?_) fun _ _ e => e.elim))
  obtain ⟨rfl, rfl⟩ := q
  exact loop _
end K_comp_core0
section
variable {prog : Program} {w : World} {A : Around} {E : Value → Shared → Prop} {s : Shared} {env : Env} {h₀ : Heap} {L : Addr} {m : Str → Option Value}
theorem comp_core0 {elt target iter : Expr} {scope : Scope} {cl : List (Str × Addr)} {pos : Pos} {Fin : List Value → List (Addr × Obj) → Prop} {it : Value} {s₂ : Shared} {news : List (Addr × Obj)} {n : Nat} {J : Nat → List Value → List (Addr × Obj) → Prop} {RR : Value → Addr → Result → Shared → Prop}
    (hcell : ∀ y ∈ scope.names, y.2 ≠ .cell) (hkind : scope.kind = .function)
    (P : CPkg0 prog w A h₀ L m env scope cl elt target Fin it s₂ news n J)
    (hRR : ∀ C oC D ys news' h tk, CS h₀ L m C oC D ys news' h → Fin ys news' → RR (.ref D) C (.ok .next) { s₂ with heap := h, toks := tk }) :
    wpAny (model prog w) A (newList []) (fun acc s₃ => wpAny (model prog w) A (newFunctionEnv scope env.globals cl [] env.qual none .none (some env)) (fun cenv s₄ =>
      codeAny (model prog w) A (.compStart (.ListComp elt [⟨target, iter, [], 0⟩] scope pos) 0 it acc { cenv with scope := relabel scope env }) (RR acc cenv.locals) s₄) E s₃) E s₂ :=
  pickAll K_comp_core0.ne (P := fun c => @K_comp_core0.P (c.1) (c.2.1) (c.2.2.1) (c.2.2.2.1) (c.2.2.2.2.1) (c.2.2.2.2.2.1) (c.2.2.2.2.2.2.1) (c.2.2.2.2.2.2.2.1) (c.2.2.2.2.2.2.2.2.1) (c.2.2.2.2.2.2.2.2.2.1) (c.2.2.2.2.2.2.2.2.2.2.1) (c.2.2.2.2.2.2.2.2.2.2.2.1) (c.2.2.2.2.2.2.2.2.2.2.2.2.1) (c.2.2.2.2.2.2.2.2.2.2.2.2.2.1) (c.2.2.2.2.2.2.2.2.2.2.2.2.2.2.1) (c.2.2.2.2.2.2.2.2.2.2.2.2.2.2.2.1) (c.2.2.2.2.2.2.2.2.2.2.2.2.2.2.2.2.1) (c.2.2.2.2.2.2.2.2.2.2.2.2.2.2.2.2.2.1) (c.2.2.2.2.2.2.2.2.2.2.2.2.2.2.2.2.2.2.1) (c.2.2.2.2.2.2.2.2.2.2.2.2.2.2.2.2.2.2.2.1) (c.2.2.2.2.2.2.2.2.2.2.2.2.2.2.2.2.2.2.2.2)) K_comp_core0.core (prog, w, A, E, env, h₀, L, m, elt, target, iter, scope, cl, pos, Fin, it, s₂, news, n, J, RR) hcell hkind P hRR
theorem my_comp0 {elt target iter : Expr} {scope : Scope} {cl : List (Str × Addr)} {pos : Pos} {Q : Value → Shared → Prop}
    (hclos : closureFor scope env = pure cl) (hcell : ∀ y ∈ scope.names, y.2 ≠ .cell) (hkind : scope.kind = .function)
    (hnames : ∀ y ∈ scope.names, y.2 = .local → scope.names.lookup y.1 = some .local) (hs : ∀ x, foldedSetIterable iter env x = pure x)
    (h : wpAny (model prog w) A (eval iter env) (fun xv s₁ => wpAny (model prog w) A (pyIter xv) (fun it s₂ => ∃ Fin news n J, CPkg0 prog w A h₀ L m env scope cl elt target Fin it s₂ news n J ∧
      (∀ D ys news h tk, Fin ys news → Fr h₀ L h m → News h₀ L h ((D, lst ys) :: news) → (∀ p ∈ news, p.1 ≠ D) → Q (.ref D) { s₂ with heap := h, toks := tk })) E s₁) E s) :
    wpAny (model prog w) A (eval (.ListComp elt [⟨target, iter, [], 0⟩] scope pos) env) Q E s := by
  rw [eval_ListComp]
  refine wpAny_comprehension_free (use := none) rfl hs hclos hkind hnames (wpAny_mono h (fun xv s₁ h₁ => wpAny_mono h₁ (fun it s₂ h₂ => ?_) fun _ _ e => e) fun _ _ e => e)
  obtain ⟨Fin, news, n, J, P, fin⟩ := h₂
  refine comp_core0 (RR := fun acc C => compPost (model prog w) A E none Q acc C) hcell hkind P fun C oC D ys news' h tk cs hF => ?_
  obtain ⟨mC, hm⟩ := cs.ns
  refine ⟨mC, hm.ns (cs.N _ List.mem_cons_self).1, fun h5 hs5 => ?_⟩
  obtain ⟨F5, N5⟩ := cs.letGo hs5
  exact fin D ys news' h5 tk hF F5 N5 fun p hp => (cs.off p hp).2

theorem my_comp_assign0 {elt target iter : Expr} {y : Str} {py spos : Pos} {scope : Scope} {cl : List (Str × Addr)} {pos : Pos} {Q : Flow → Shared → Prop} (hLe : env.locals = L)
    (hsw : swapsWith (.ListComp elt [⟨target, iter, [], 0⟩] scope pos) (some (.Name y py)) spos.line env = pure true)
    (hclos : closureFor scope env = pure cl) (hcell : ∀ y ∈ scope.names, y.2 ≠ .cell) (hkind : scope.kind = .function)
    (hnames : ∀ y ∈ scope.names, y.2 = .local → scope.names.lookup y.1 = some .local) (hs : ∀ x, foldedSetIterable iter env x = pure x)
    (hy : env.kindOf y = some .local) (hp : (env.scope.kind == .class || (env.scope.kind == .module && env.locals != env.globals)) = false)
    (h : wpAny (model prog w) A (eval iter env) (fun xv s₁ => wpAny (model prog w) A (pyIter xv) (fun it s₂ => ∃ Fin news n J, CPkg0 prog w A h₀ L m env scope cl elt target Fin it s₂ news n J ∧
      (∀ D ys news h tk, Fin ys news → Fr h₀ L h (fun z => if z = y then some (.ref D) else m z) → News h₀ L h ((D, lst ys) :: news) → (∀ p ∈ news, p.1 ≠ D) → Q .next { s₂ with heap := h, toks := tk })) E s₁) E s) :
    wpAny (model prog w) A (exec (.Assign [.Name y py] (.ListComp elt [⟨target, iter, [], 0⟩] scope pos) spos) env) Q E s := by
  subst hLe
  rw [exec_Assign_Name_used _ _ _ _ hsw]
  refine wpAny_bind (wpAny_standAt (wpAny_bind ?_))
  show wpAny _ A (do let _ ← comprehension (.ListComp elt [⟨target, iter, [], 0⟩] scope pos) scope env _ (newList []) false (eval iter env) (some (assign (.Name y py) env))) _ _ s
  refine wpAny_bind (wpAny_mono (wpAny_comprehension_free (use := some (assign (.Name y py) env)) (Q := fun _ s' => Q .next s') rfl hs hclos hkind hnames
    (wpAny_mono h (fun xv s₁ h₁ => wpAny_mono h₁ (fun it s₂ h₂ => ?_) fun _ _ e => e) fun _ _ e => e)) (fun _ s' hq => wpAny_pure (wpAny_pure hq)) fun _ _ e => e)
  obtain ⟨Fin, news, n, J, P, fin⟩ := h₂
  refine comp_core0 (RR := fun acc C => compPost (model prog w) A E (some (assign (.Name y py) env)) (fun _ s' => Q .next s') acc C) hcell hkind P fun C oC D ys news' h tk cs hF => ?_
  obtain ⟨mC, hm⟩ := cs.ns
  have zC := cs.N _ List.mem_cons_self
  show wpAny _ A (assign (.Name y py) env (.ref D)) _ _ _
  refine wpAny_assign_Name (wpAny_storeName_local hy cs.F.ns (fun h₂ hn₂ hs₂ => ?_) hp)
  have hL₀ : h₀.get? env.locals = none := Heap.get?_none_of_le cs.F.above
  have cs₂ : CS h₀ env.locals (fun z => if z = y then some (.ref D) else m z) C oC D ys news' h₂ :=
    ⟨⟨hn₂, fun b o e => hs₂.extBut b o (fun q => by rw [q, hL₀] at e; cases e) (cs.F.keep b o e), cs.F.above⟩, fun p hp => ⟨hs₂.extBut _ _ (cs.N p hp).2.1 (cs.N p hp).1, (cs.N p hp).2⟩, cs.off, cs.cd, cs.ns⟩
  refine ⟨mC, hm.ns (cs₂.N _ List.mem_cons_self).1, fun h5 hs5 => ?_⟩
  obtain ⟨F5, N5⟩ := cs₂.letGo hs5
  exact fin D ys news' h5 _ hF F5 N5 fun p hp => (cs.off p hp).2
def LTurn0 (prog : Program) (w : World) (A : Around) (h₀ : Heap) (L : Addr) (m : Str → Option Value) (env : Env) (scope : Scope) (cl : List (Str × Addr)) (elt target : Expr) (vs : List Value) (s₁ : Shared)
    (J : Nat → List Value → List (Addr × Obj) → Prop) : Prop :=
  ∀ i v ys news C oC D I oI h tk, vs[i]? = some v → J i ys news → CS h₀ L m C oC D ys ((I, oI) :: news) h → (∀ p ∈ news, p.1 ≠ I) →
    wpAny (model prog w) A (assign target (compEnvC scope cl C env) v) (fun _ s₃ =>
        wpAny (model prog w) A (eval elt (compEnvC scope cl C env)) (fun y s₅ => CEndI h₀ L m C D I oI ys s₁ (J (i + 1) (ys ++ [y])) s₅) FF s₃) FF { s₁ with heap := h, toks := tk }

/-- a comprehension's list, its invariant and its turn -/
structure LPkg0 (prog : Program) (w : World) (A : Around) (h₀ : Heap) (L : Addr) (m : Str → Option Value) (env : Env) (scope : Scope) (cl : List (Str × Addr)) (elt target : Expr) (s₁ : Shared) (l : Addr) (vs : List Value) (news : List (Addr × Obj))
    (J : Nat → List Value → List (Addr × Obj) → Prop) : Prop where
  F : Fr h₀ L s₁.heap m
  N : News h₀ L s₁.heap news
  size : vs.length ≤ sizeLine
  start : J 0 [] news
  src : ∀ i ys news, J i ys news → ys.length ≤ i ∧ SrcAt h₀ l vs.toArray news
  turn : LTurn0 prog w A h₀ L m env scope cl elt target vs s₁ J

def K_LPkg0_iter.P (elt : Expr) (target : Expr) (scope : Scope) (cl : List (Str × Addr)) (s₁ : Shared) (l : Addr) (vs : List Value) (news : List (Addr × Obj)) (J : Nat → List Value → List (Addr × Obj) → Prop) (Q : Value → Shared → Prop) : Prop :=
  ∀ (hh : A.handled = none) (hgo : ∀ it v, letOwnedTupleGo target it v = pure ()) (P : LPkg0 prog w A h₀ L m env scope cl elt target s₁ l vs news J) (k : ∀ it g nf n J', CPkg0 prog w A h₀ L m env scope cl elt target (fun ys nf => ∃ nw, J vs.length ys nw ∧ ∀ p ∈ nw, p ∈ nf) it { s₁ with heap := g } nf n J' → Q it { s₁ with heap := g }), wpAny (model prog w) A (pyIter (.ref l)) Q E s₁
end
namespace K_LPkg0_iter
theorem ne : Nonempty ((Program) × (World) × (Around) × (Value → Shared → Prop) × (Env) × (Heap) × (Addr) × (Str → Option Value) × (Expr) × (Expr) × (Scope) × (List (Str × Addr)) × (Shared) × (Addr) × (List Value) × (List (Addr × Obj)) × (Nat → List Value → List (Addr × Obj) → Prop) × (Value → Shared → Prop)) := ⟨(Classical.ofNonempty, w0, ⟨none, 0, none, none, 0⟩, Classical.ofNonempty, Classical.ofNonempty, Classical.ofNonempty, Classical.ofNonempty, Classical.ofNonempty, Classical.ofNonempty, Classical.ofNonempty, Classical.ofNonempty, Classical.ofNonempty, {}, Classical.ofNonempty, Classical.ofNonempty, Classical.ofNonempty, Classical.ofNonempty, Classical.ofNonempty)⟩
noncomputable def κ : (Program) × (World) × (Around) × (Value → Shared → Prop) × (Env) × (Heap) × (Addr) × (Str → Option Value) × (Expr) × (Expr) × (Scope) × (List (Str × Addr)) × (Shared) × (Addr) × (List Value) × (List (Addr × Obj)) × (Nat → List Value → List (Addr × Obj) → Prop) × (Value → Shared → Prop) := pick ne fun c => ¬ @P (c.1) (c.2.1) (c.2.2.1) (c.2.2.2.1) (c.2.2.2.2.1) (c.2.2.2.2.2.1) (c.2.2.2.2.2.2.1) (c.2.2.2.2.2.2.2.1) (c.2.2.2.2.2.2.2.2.1) (c.2.2.2.2.2.2.2.2.2.1) (c.2.2.2.2.2.2.2.2.2.2.1) (c.2.2.2.2.2.2.2.2.2.2.2.1) (c.2.2.2.2.2.2.2.2.2.2.2.2.1) (c.2.2.2.2.2.2.2.2.2.2.2.2.2.1) (c.2.2.2.2.2.2.2.2.2.2.2.2.2.2.1) (c.2.2.2.2.2.2.2.2.2.2.2.2.2.2.2.1) (c.2.2.2.2.2.2.2.2.2.2.2.2.2.2.2.2.1) (c.2.2.2.2.2.2.2.2.2.2.2.2.2.2.2.2.2)
noncomputable def prog : Program := κ.1
noncomputable def w : World := κ.2.1
noncomputable def A : Around := κ.2.2.1
noncomputable def E : Value → Shared → Prop := κ.2.2.2.1
noncomputable def env : Env := κ.2.2.2.2.1
noncomputable def h₀ : Heap := κ.2.2.2.2.2.1
noncomputable def L : Addr := κ.2.2.2.2.2.2.1
noncomputable def m : Str → Option Value := κ.2.2.2.2.2.2.2.1
noncomputable def elt : Expr := κ.2.2.2.2.2.2.2.2.1
noncomputable def target : Expr := κ.2.2.2.2.2.2.2.2.2.1
noncomputable def scope : Scope := κ.2.2.2.2.2.2.2.2.2.2.1
noncomputable def cl : List (Str × Addr) := κ.2.2.2.2.2.2.2.2.2.2.2.1
noncomputable def s₁ : Shared := κ.2.2.2.2.2.2.2.2.2.2.2.2.1
noncomputable def l : Addr := κ.2.2.2.2.2.2.2.2.2.2.2.2.2.1
noncomputable def vs : List Value := κ.2.2.2.2.2.2.2.2.2.2.2.2.2.2.1
noncomputable def news : List (Addr × Obj) := κ.2.2.2.2.2.2.2.2.2.2.2.2.2.2.2.1
noncomputable def J : Nat → List Value → List (Addr × Obj) → Prop := κ.2.2.2.2.2.2.2.2.2.2.2.2.2.2.2.2.1
noncomputable def Q : Value → Shared → Prop := κ.2.2.2.2.2.2.2.2.2.2.2.2.2.2.2.2.2
theorem core : @P prog w A E env h₀ L m elt target scope cl s₁ l vs news J Q := by
  intro hh hgo P k
  obtain ⟨F, N, hvs, hJ, hsrc, turn⟩ := P
  have hl := (hsrc _ _ _ hJ).2.list F.keep N
  refine wpAny_pyIter_list hl ?_
  have up : Kp s₁.heap (s₁.heap.push { cls := .type "list_iterator", data := .fields #[.ref l, .int 0 0] }) := fun b o e => Heap.get?_push_of_some _ e
  have hlt : l < s₁.heap.objs.size := by obtain ⟨_, e, _⟩ := hl; exact Heap.lt_size e
  let Ob : Nat → Obj → Prop := fun i oI => oI.cls = .type "list_iterator" ∧ oI.data = .fields #[.ref l, .int i 0]
  refine k _ _ ((s₁.heap.objs.size, { cls := .type "list_iterator", data := .fields #[.ref l, .int 0 0] }) :: news) (vs.length + 1) (fun n ys nf => ∃ i oI nw, n = vs.length + 1 - i ∧ i ≤ vs.length ∧ nf = (s₁.heap.objs.size, oI) :: nw ∧ (∀ p ∈ nw, p.1 ≠ s₁.heap.objs.size) ∧ Ob i oI ∧ J i ys nw) ⟨fr_after F up, fun p hp => ?_, ⟨0, _, news, rfl, Nat.zero_le _, rfl, fun p hp => Nat.ne_of_lt (Heap.lt_size (N p hp).1), ⟨rfl, rfl⟩, hJ⟩, ?_, fun v => hgo _ v, ?_, ?_⟩
  · rcases List.mem_cons.mp hp with rfl | hp
    · exact ⟨Heap.get?_push_size _ rfl, Nat.ne_of_gt F.ns.lt, next_is_new F⟩
    · exact ⟨up _ _ (N p hp).1, (N p hp).2⟩
  · intro n ys nf hq2
    (try k_fold)
    obtain ⟨i, oI, nw, rfl, hi, rfl, _, _, hJ'⟩ := hq2
    exact Nat.le_trans (Nat.le_trans (hsrc _ _ _ hJ').1 hi) hvs
  · intro h' tk' N'
    exact wpAny_pyIter_listiter (i := 0) ⟨_, (N' _ List.mem_cons_self).1, rfl, rfl⟩ ⟨rfl, rfl⟩
  · intro n ys nf C oC D h' tk' hq3 cs
    (try k_fold)
    obtain ⟨i, oI, nw, rfl, hi, rfl, hoff, hob, hJ'⟩ := hq3
    have zI := cs.N _ (List.mem_cons_of_mem _ (List.mem_cons_of_mem _ List.mem_cons_self))
    have cI := cs.off _ List.mem_cons_self
    have Nw : News h₀ L h' nw := fun p hp => cs.N p (List.mem_cons_of_mem _ (List.mem_cons_of_mem _ (List.mem_cons_of_mem _ hp)))
    have hl' := (hsrc _ _ _ hJ').2.list cs.F.keep Nw
    have hit : h'.IsListIter s₁.heap.objs.size l i := ⟨oI, zI.1, hob.1, hob.2⟩
    by_cases hlt' : i < vs.length
    · refine wpAny_pyNext_list_item hit hl' (x := vs[i]) (by simp [hlt']) fun h2 hit2 hs2 => ?_
      obtain ⟨oI2, e2, hc2, hd2⟩ := id hit2
      have cs2 : CS h₀ L m C oC D ys ((s₁.heap.objs.size, oI2) :: nw) h2 := by
        refine ⟨cs.F.change hs2 zI.2.1 zI.2.2, fun p hp => ?_, fun p hp => ?_, cs.cd, cs.ns⟩
        · rcases List.mem_cons.mp hp with rfl | hp
          · have z := cs.N _ List.mem_cons_self
            exact ⟨(hs2.2 _ (Ne.symm cI.1)).trans z.1, z.2⟩
          · rcases List.mem_cons.mp hp with rfl | hp
            · have z := cs.N _ (List.mem_cons_of_mem _ List.mem_cons_self)
              exact ⟨(hs2.2 _ (Ne.symm cI.2)).trans z.1, z.2⟩
            · rcases List.mem_cons.mp hp with rfl | hp
              · exact ⟨e2, zI.2⟩
              · exact ⟨(hs2.2 _ (hoff p hp)).trans (Nw p hp).1, (Nw p hp).2⟩
        · rcases List.mem_cons.mp hp with rfl | hp
          · exact cI
          · exact cs.off p (List.mem_cons_of_mem _ hp)
      refine wpAny_mono (turn i vs[i] ys nw C oC D _ oI2 h2 tk' (by simp [hlt']) hJ' cs2 hoff) (fun _ s3 h3 => ?_) fun _ _ e => e
      refine wpAny_mono h3 (fun y s5 h5 => ?_) fun _ _ e => e
      obtain ⟨h5, tk5, oC5, nw5, rfl, cs5, off5, hJ5⟩ := h5
      exact ⟨h5, tk5, oC5, _, rfl, cs5, vs.length + 1 - (i + 1), decK (Nat.le_of_succ_le (by assumption)) (by decide), i + 1, oI2, nw5, rfl, hlt', rfl, off5, ⟨hc2, hd2⟩, hJ5⟩
    · obtain rfl : i = vs.length := Nat.le_antisymm hi (Nat.not_lt.mp hlt')
      refine wpAny_pyNext_list_end hh hit hl' (by simp) fun h2 he2 => ?_
      have z : ∀ b o, b ≠ s₁.heap.objs.size → h'.get? b = some o → h2.get? b = some o := fun b o hb e => he2 b o hb e
      refine ⟨h2, tk', oC, nw, rfl, ⟨⟨cs.F.ns.at' fun o e => z _ o (Ne.symm zI.2.1) e, fun b o e => z b o (fun q => by rw [q, zI.2.2] at e; cases e) (cs.F.keep b o e), cs.F.above⟩, fun p hp => ?_, fun p hp => cs.off p (List.mem_cons_of_mem _ hp), cs.cd, cs.ns⟩, nw, hJ', fun _ hp => hp⟩
      rcases List.mem_cons.mp hp with rfl | hp
      · have q := cs.N _ List.mem_cons_self
        exact ⟨z _ _ (Ne.symm cI.1) q.1, q.2⟩
      · rcases List.mem_cons.mp hp with rfl | hp
        · have q := cs.N _ (List.mem_cons_of_mem _ List.mem_cons_self)
          exact ⟨z _ _ (Ne.symm cI.2) q.1, q.2⟩
        · exact ⟨z _ _ (hoff p hp) (Nw p hp).1, (Nw p hp).2⟩
end K_LPkg0_iter
section
variable {prog : Program} {w : World} {A : Around} {E : Value → Shared → Prop} {s : Shared} {env : Env} {h₀ : Heap} {L : Addr} {m : Str → Option Value}
theorem LPkg0.iter {elt target : Expr} {scope : Scope} {cl : List (Str × Addr)} {s₁ : Shared} {l : Addr} {vs : List Value} {news : List (Addr × Obj)} {J : Nat → List Value → List (Addr × Obj) → Prop} {Q : Value → Shared → Prop} (hh : A.handled = none)
    (hgo : ∀ it v, letOwnedTupleGo target it v = pure ())
    (P : LPkg0 prog w A h₀ L m env scope cl elt target s₁ l vs news J)
    (k : ∀ it g nf n J', CPkg0 prog w A h₀ L m env scope cl elt target (fun ys nf => ∃ nw, J vs.length ys nw ∧ ∀ p ∈ nw, p ∈ nf) it { s₁ with heap := g } nf n J' → Q it { s₁ with heap := g }) :
    wpAny (model prog w) A (pyIter (.ref l)) Q E s₁ :=
  pickAll K_LPkg0_iter.ne (P := fun c => @K_LPkg0_iter.P (c.1) (c.2.1) (c.2.2.1) (c.2.2.2.1) (c.2.2.2.2.1) (c.2.2.2.2.2.1) (c.2.2.2.2.2.2.1) (c.2.2.2.2.2.2.2.1) (c.2.2.2.2.2.2.2.2.1) (c.2.2.2.2.2.2.2.2.2.1) (c.2.2.2.2.2.2.2.2.2.2.1) (c.2.2.2.2.2.2.2.2.2.2.2.1) (c.2.2.2.2.2.2.2.2.2.2.2.2.1) (c.2.2.2.2.2.2.2.2.2.2.2.2.2.1) (c.2.2.2.2.2.2.2.2.2.2.2.2.2.2.1) (c.2.2.2.2.2.2.2.2.2.2.2.2.2.2.2.1) (c.2.2.2.2.2.2.2.2.2.2.2.2.2.2.2.2.1) (c.2.2.2.2.2.2.2.2.2.2.2.2.2.2.2.2.2)) K_LPkg0_iter.core (prog, w, A, E, env, h₀, L, m, elt, target, scope, cl, s₁, l, vs, news, J, Q) hh hgo P k
theorem my_comp_list0 {elt target iter : Expr} {scope : Scope} {cl : List (Str × Addr)} {pos : Pos} {Q : Value → Shared → Prop} (_F₀ : Fr h₀ L s.heap m) (hh : A.handled = none)
    (hclos : closureFor scope env = pure cl) (hcell : ∀ y ∈ scope.names, y.2 ≠ .cell) (hkind : scope.kind = .function)
    (hnames : ∀ y ∈ scope.names, y.2 = .local → scope.names.lookup y.1 = some .local) (hs : ∀ x, foldedSetIterable iter env x = pure x)
    (hgo : ∀ it v, letOwnedTupleGo target it v = pure ())
    (h : wpAny (model prog w) A (eval iter env) (fun xv s₁ => ∃ l vs news J, xv = .ref l ∧ LPkg0 prog w A h₀ L m env scope cl elt target s₁ l vs news J ∧
      (∀ D ys news h tk, J vs.length ys news → Fr h₀ L h m → News h₀ L h ((D, lst ys) :: news) → (∀ p ∈ news, p.1 ≠ D) → Q (.ref D) { s₁ with heap := h, toks := tk })) E s) :
    wpAny (model prog w) A (eval (.ListComp elt [⟨target, iter, [], 0⟩] scope pos) env) Q E s := by
  refine my_comp0 (h₀ := h₀) (L := L) (m := m) hclos hcell hkind hnames hs (wpAny_mono h (fun xv s₁ h₁ => ?_) fun _ _ e => e)
  obtain ⟨l, vs, news, J, rfl, P, fin⟩ := h₁
  refine P.iter hh hgo fun it g nf n J' P' => ⟨_, _, _, _, P', ?_⟩
  intro D ys nf h' tk' hq4 F' N' off'
  (try k_fold)
  obtain ⟨nw, hJ', hsub⟩ := hq4
  refine fin D ys nw h' tk' hJ' F' (fun p hp => N' p ?_) fun p hp => off' p (hsub p hp)
  rcases List.mem_cons.mp hp with rfl | hp
  · exact List.mem_cons_self
  · exact List.mem_cons_of_mem _ (hsub p hp)

theorem my_comp_list_assign0 {elt target iter : Expr} {y : Str} {py spos : Pos} {scope : Scope} {cl : List (Str × Addr)} {pos : Pos} {Q : Flow → Shared → Prop} (_F₀ : Fr h₀ L s.heap m) (hh : A.handled = none) (hLe : env.locals = L)
    (hsw : swapsWith (.ListComp elt [⟨target, iter, [], 0⟩] scope pos) (some (.Name y py)) spos.line env = pure true)
    (hclos : closureFor scope env = pure cl) (hcell : ∀ y ∈ scope.names, y.2 ≠ .cell) (hkind : scope.kind = .function)
    (hnames : ∀ y ∈ scope.names, y.2 = .local → scope.names.lookup y.1 = some .local) (hs : ∀ x, foldedSetIterable iter env x = pure x)
    (hy : env.kindOf y = some .local) (hp : (env.scope.kind == .class || (env.scope.kind == .module && env.locals != env.globals)) = false)
    (hgo : ∀ it v, letOwnedTupleGo target it v = pure ())
    (h : wpAny (model prog w) A (eval iter env) (fun xv s₁ => ∃ l vs news J, xv = .ref l ∧ LPkg0 prog w A h₀ L m env scope cl elt target s₁ l vs news J ∧
      (∀ D ys news h tk, J vs.length ys news → Fr h₀ L h (fun z => if z = y then some (.ref D) else m z) → News h₀ L h ((D, lst ys) :: news) → (∀ p ∈ news, p.1 ≠ D) → Q .next { s₁ with heap := h, toks := tk })) E s) :
    wpAny (model prog w) A (exec (.Assign [.Name y py] (.ListComp elt [⟨target, iter, [], 0⟩] scope pos) spos) env) Q E s := by
  refine my_comp_assign0 (h₀ := h₀) (m := m) hLe hsw hclos hcell hkind hnames hs hy hp (wpAny_mono h (fun xv s₁ h₁ => ?_) fun _ _ e => e)
  obtain ⟨l, vs, news, J, rfl, P, fin⟩ := h₁
  refine P.iter hh hgo fun it g nf n J' P' => ⟨_, _, _, _, P', ?_⟩
  intro D ys nf h' tk' hq5 F' N' off'
  (try k_fold)
  obtain ⟨nw, hJ', hsub⟩ := hq5
  refine fin D ys nw h' tk' hJ' F' (fun p hp => N' p ?_) fun p hp => off' p (hsub p hp)
  rcases List.mem_cons.mp hp with rfl | hp
  · exact List.mem_cons_self
  · exact List.mem_cons_of_mem _ (hsub p hp)
end
end Mine
end
section
open PySem PySem.W PyProof.Rows PySem.Calls
set_option Elab.async false
set_option maxRecDepth 100000
set_option maxHeartbeats 4000000
namespace Mine
/-- texts in a row -/
def StrsAre (vs : List Value) (ps : List (List Nat)) : Prop := All2 (fun v p => ∃ t, v = .str (txt p) t) vs ps
theorem StrsAre.snoc {vs : List Value} {ps : List (List Nat)} {p : List Nat} {t : Tok} (h : StrsAre vs ps) : StrsAre (vs ++ [.str (txt p) t]) (ps ++ [p]) := All2.snoc h ⟨t, rfl⟩
theorem StrsAre.vals : ∀ {vs : List Value} {ps : List (List Nat)}, StrsAre vs ps → ∃ l : List (Str × Tok), vs = strValues l ∧ l.map (·.1) = ps.map txt
  | [], [], _ => ⟨[], rfl, rfl⟩
  | [], _ :: _, h => by have := h.1; simp at this
  | _ :: _, [], h => by have := h.1; simp at this
  | v :: vs, p :: ps, h => by
    obtain ⟨t, rfl⟩ := h.2 0 v p rfl rfl
    obtain ⟨l, e1, e2⟩ := StrsAre.vals (vs := vs) (ps := ps) ⟨by have := h.1; simpa using this, fun i x y hx hy => h.2 (i + 1) x y hx hy⟩
    exact ⟨(txt p, t) :: l, by rw [e1]; rfl, by simp [e2]⟩
def joinL (sp : List Nat) : List (List Nat) → List Nat
  | [] => []
  | [x] => x
  | x :: y :: r => x ++ sp ++ joinL sp (y :: r)
theorem join_txt {sp : List Nat} : ∀ ps : List (List Nat), Str.join (txt sp) (ps.map txt) = txt (joinL sp ps)
  | [] => rfl
  | [x] => rfl
  | x :: y :: r => by
    show txt x ++ txt sp ++ Str.join (txt sp) ((y :: r).map txt) = _
    rw [join_txt (y :: r), txt_add, txt_add]; rfl
theorem joinL_nil : ∀ ps : List (List Nat), joinL [] ps = ps.flatten
  | [] => rfl
  | [x] => (List.append_nil x).symm
  | x :: y :: r => by
    show x ++ [] ++ joinL [] (y :: r) = _
    rw [joinL_nil (y :: r), List.append_nil]; rfl
theorem fold_len {n : Nat} : ∀ (l : List Str) (a : Nat), l.foldl (fun x y => x + y.length + n) a = a + (l.map Str.length).sum + l.length * n
  | [], a => by simp
  | x :: r, a => by
    rw [List.foldl_cons, fold_len r, List.map_cons, List.sum_cons, List.length_cons, Nat.succ_mul]; lia
theorem sum_len : ∀ ps : List (List Nat), ((ps.map txt).map Str.length).sum = (ps.map List.length).sum
  | [] => rfl
  | p :: r => by simp only [List.map_cons, List.sum_cons, sum_len r, txt_length]
theorem joinL_len {sp : List Nat} : ∀ ps : List (List Nat), (joinL sp ps).length ≤ (ps.map List.length).sum + ps.length * sp.length
  | [] => Nat.zero_le _
  | [x] => Nat.le_add_right x.length _
  | x :: y :: r => by
    have := joinL_len (sp := sp) (y :: r)
    show (x ++ sp ++ joinL sp (y :: r)).length ≤ _
    simp only [List.length_append, List.map_cons, List.sum_cons, List.length_cons, Nat.succ_mul] at *
    lia
section
variable {prog : Program} {w : World} {A : Around} {E : Value → Shared → Prop} {s : Shared}
theorem join_call {a : Addr} {vs : List Value} {sp : List Nat} {ps : List (List Nat)} {t0 : Tok} {Q : Value → Shared → Prop} (hl : s.heap.IsList a vs.toArray) (hs : StrsAre vs ps) (hz : (ps.map List.length).sum + ps.length * sp.length ≤ 100000)
    (h : ∀ tk t, Q (.str (txt (joinL sp ps)) t) { s with toks := tk }) : wpAny (model prog w) A (call (.builtin "str.join") [.str (txt sp) t0, .ref a]) Q E s := by
  obtain ⟨l, rfl, el⟩ := hs.vals
  have hz' : 100000 ≤ sizeLine := by decide
  refine call_meets PySem.F.slot_str_join (typeIs_str _ _ _) PySem.F.entry_str_join (PySem.F.args_str_join_2 _ _) (meets_str_join_list _ _ a l ?_) ⟨hl, ?_⟩
  · rw [el, List.foldl_toArray, fold_len, sum_len, List.length_map, txt_length]
    unfold Builtin.Str.tooLong
    simp; lia
  · have e : Str.join (txt sp) (l.map (·.1)) = txt (joinL sp ps) := by rw [el, join_txt]
    match l, e with
    | [], e => 
      show (Builtin.Str.glued (txt sp) []).length ≤ sizeLine ∧ Q (.str (Builtin.Str.glued (txt sp) []) _) _
      have e' : Builtin.Str.glued (txt sp) [] = txt (joinL sp ps) := (StrLaws.glued_eq_join _ _).trans e
      rw [e']; exact ⟨by rw [txt_length]; have := joinL_len (sp := sp) ps; lia, h _ _⟩
    | [p], e => 
      show Q (.str p.1 p.2) _
      have e' : p.1 = txt (joinL sp ps) := e
      rw [e']; exact h _ _
    | p :: q :: r, e =>
      show (Builtin.Str.glued (txt sp) ((p :: q :: r).map (·.1))).length ≤ sizeLine ∧ Q (.str (Builtin.Str.glued (txt sp) ((p :: q :: r).map (·.1))) _) _
      rw [StrLaws.glued_eq_join, e]; exact ⟨by rw [txt_length]; have := joinL_len (sp := sp) ps; lia, h _ _⟩
end
end Mine
end
section
open PySem PySem.W PyProof.Rows PySem.Calls
set_option Elab.async false
set_option maxRecDepth 100000
set_option maxHeartbeats 4000000
namespace Mine
theorem among_some {pos : Pos} {c x : Value} {a b : Int} {t u : Tok} : ∀ (l : List Value), TriplesOk l → codeAmong pos l = some c → codeAmong pos (l ++ [.int a t, .int b u, x]) = some c
  | [], _, h => by simp [codeAmong] at h
  | [_], h, _ => by simp [TriplesOk] at h
  | [_, _], h, _ => by simp [TriplesOk] at h
  | v1 :: v2 :: v3 :: r, ht, h => by
    cases v1 with
    | int i1 t1 =>
      cases v2 with
      | int i2 t2 =>
        simp only [List.cons_append, codeAmong, TriplesOk] at *
        split
        · rename_i e; rw [if_pos e] at h; exact h
        · rename_i e; rw [if_neg e] at h; exact among_some r ht h
      | _ => simp [TriplesOk] at ht
    | _ => simp [TriplesOk] at ht
theorem among_none {pos : Pos} {x : Value} {a b : Int} {t u : Tok} (hab : (a == pos.line && b == pos.col) = false) : ∀ (l : List Value), TriplesOk l → codeAmong pos l = none → codeAmong pos (l ++ [.int a t, .int b u, x]) = none
  | [], _, _ => by simp [codeAmong, hab]
  | [_], h, _ => by simp [TriplesOk] at h
  | [_, _], h, _ => by simp [TriplesOk] at h
  | v1 :: v2 :: v3 :: r, ht, h => by
    cases v1 with
    | int i1 t1 =>
      cases v2 with
      | int i2 t2 =>
        simp only [List.cons_append, codeAmong, TriplesOk] at *
        split
        · rename_i e; rw [if_pos e] at h; cases h
        · rename_i e; rw [if_neg e] at h; exact among_none hab r ht h
      | _ => simp [TriplesOk] at ht
    | _ => simp [TriplesOk] at ht
/-- a code table, of which one place is watched -/
def TabL (h₀ : Heap) (L : Addr) (rest : List (Addr × Obj)) (pos : Pos) (qual : Str) (ps : Array Value) : Prop := TriplesOk ps.toList ∧ (codeAmong pos ps.toList = none ∨ ∃ c', codeAmong pos ps.toList = some (.ref c') ∧ CdOk h₀ L rest c' qual)
theorem TabL.mono {h₀ : Heap} {L : Addr} {a b : List (Addr × Obj)} {pos : Pos} {qual : Str} {ps : Array Value} (x : TabL h₀ L a pos qual ps) (k : ∀ p ∈ a, p ∈ b) : TabL h₀ L b pos qual ps := ⟨x.1, x.2.elim .inl fun ⟨c', e, y⟩ => .inr ⟨c', e, y.mono k⟩⟩
def TabLV (P : Addr) (pos : Pos) (qual : Str) (h : Heap) (o : Obj) : Prop := ∃ ps, o = tabObj ps ∧ TriplesOk ps.toList ∧ (codeAmong pos ps.toList = none ∨ ∃ c', codeAmong pos ps.toList = some (.ref c') ∧ c' ≠ P ∧ h.CodeRec (.ref c') qual)
theorem TabLV.keeps {P : Addr} {pos : Pos} {qual : Str} (h h' : Heap) (o : Obj) (k : ∀ b x, b ≠ P → h.get? b = some x → h'.get? b = some x) (x : TabLV P pos qual h o) : TabLV P pos qual h' o := by
  obtain ⟨ps, e, ht, x⟩ := x
  refine ⟨ps, e, ht, ?_⟩
  rcases x with x | ⟨c', e1, hne, c₂, oc, vs, t, e2, hoc, r⟩
  · exact .inl x
  · cases e2; exact .inr ⟨c', e1, hne, c', oc, vs, t, rfl, k _ _ hne hoc, r⟩
theorem TabLV.ok {P L : Addr} {pos : Pos} {qual : Str} {g : Heap} {o : Obj} (x : TabLV P pos qual g o) : ∃ ps, o = tabObj ps ∧ TabL g L [] pos qual ps := by
  obtain ⟨ps, e, ht, x⟩ := x
  refine ⟨ps, e, ht, ?_⟩
  rcases x with x | ⟨c', e1, hne, c₂, oc, vs, t, e2, hoc, r⟩
  · exact .inl x
  · exact .inr ⟨c', e1, fun h m F N => ⟨c₂, oc, vs, t, e2, F.keep _ _ hoc, r⟩⟩
theorem tri2 {l : List Value} (ht : TriplesOk l) {v : Value} (hv : l[1]? = some v) : ∃ a b, v = .int a b := by
  cases l with
  | nil => cases hv
  | cons x l =>
  cases l with
  | nil => cases hv
  | cons y l =>
  cases hv
  cases x with
  | int _ _ =>
    cases v with
    | int _ _ => exact ⟨_, _, rfl⟩
    | _ => exact (show False from ht).elim
  | _ => exact (show False from ht).elim
theorem TabL.v {P L : Addr} {pos : Pos} {qual : Str} {g h : Heap} {m : Str → Option Value} {rest : List (Addr × Obj)} {ps : Array Value} (x : TabL g L rest pos qual ps) (F : Fr g L h m) (N : News g L h ((P, tabObj ps) :: rest)) : TabLV P pos qual h (tabObj ps) := by
  refine ⟨ps, rfl, x.1, ?_⟩
  rcases x.2 with x | ⟨c', e, y⟩
  · exact .inl x
  · have hc := y h m F fun p hp => N p (.tail _ hp)
    refine .inr ⟨c', e, fun q => ?_, hc⟩
    obtain ⟨c₂, oc, vs, t, e2, hoc, hd, hv⟩ := hc
    cases e2
    have h1 := (N _ (.head _)).1
    rw [q] at hoc
    rw [h1] at hoc
    cases hoc
    cases hd
    -- a table's second field is a number
    have ht := x.1
    cases ps with
    | mk l =>
      simp only [List.getElem?_toArray] at hv
      obtain ⟨_, _, q⟩ := tri2 ht hv
      cases q
section
variable {M : Model} {A : Around} {E : Value → Shared → Prop} {s : Shared} {h₀ : Heap} {L a c P : Addr} {m mg mb : Str → Option Value} {cn : Str} {cs : Scope} {ccd : Value} {cl : List (Str × Addr)} {rest : List (Addr × Obj)}
  {p : Program} {loose : List Str} {mean : ExcName → Option Value} {name qual : Str} {params : Arguments} {body : Expr} {scope : Scope} {pos : Pos} {firstLine : Nat} {clos : List (Str × Addr)} {ps : Array Value} {rest0 : List (Addr × Obj)}
theorem lam_stepL {Q : Value → Shared → Prop} (F : Fr h₀ L s.heap m) (N : News h₀ L s.heap ((P, tabObj ps) :: rest)) (T : Top p loose mean mg mb h₀) (C : CodeHd h₀ c P) (hcd : ccd = .ref c) (V : TabL h₀ L rest0 pos qual ps) (off : ∀ q ∈ rest, q.1 ≠ P)
    (hcl : closureFor scope (envX cn cs L a ccd cl) = pure clos)
    (h : ∀ f c' ctv h' tk xs ps', Fr h₀ L h' m →
      News h₀ L h' ((f, kla_obj name qual params body scope clos ((mg "__name__").getD .none) c' ctv) :: (P, tabObj ps') :: (rest ++ xs)) →
      (∀ q ∈ (P, tabObj ps) :: rest, q.1 < f) → (∀ q ∈ (P, tabObj ps) :: rest, ∀ x ∈ xs, q.1 < x.1) → (∀ x ∈ xs, x.1 < f) → TabL h₀ L (rest0 ++ xs) pos qual ps' → Q (.ref f) { s with heap := h', toks := tk }) :
    wpAny M A (makeFunction name qual params (.expr body) scope (envX cn cs L a ccd cl) [] [] [] pos firstLine) Q E s := by
  obtain ⟨ht, V⟩ := V
  rcases V with hn | ⟨c', hc, y⟩
  · refine kla_nest (ps := ps) F N T C hcd (.head off) ht hn hcl fun f c' oc vs t ctv h' tk F' N' hd hv l1 l2 => ?_
    have hl : (ps ++ #[rawInt pos.line, rawInt pos.col, Value.ref c']).toList = ps.toList ++ [rawInt pos.line, rawInt pos.col, .ref c'] := by simp
    refine h f c' ctv h' tk [(c', oc)] _ F' (fun q hq => N' q ?_) (fun q hq => Nat.lt_trans (l1 q hq) l2) (fun q hq x hx => by rw [List.mem_singleton.mp hx]; exact l1 q hq) (fun x hx => by rw [List.mem_singleton.mp hx]; exact l2)
      ⟨by rw [hl]; exact TriplesOk_snoc _ _ _ _ ht, .inr ⟨c', by rw [hl]; exact codeAmong_snoc _ ht hn, fun h m F N => codeRec_news N (List.mem_append_right _ (.head _)) hd hv⟩⟩
    simp only [List.mem_cons, List.mem_append, List.not_mem_nil, or_false] at hq ⊢
    rcases hq with hq | hq | hq | hq <;> simp [hq]
  · refine kla_hit (c' := c') (ps := ps) F N T C hcd (.head _) ht hc hcl fun f ctv h' tk F' N' l1 => ?_
    exact h f c' ctv h' tk [] ps F' (by rw [List.append_nil]; exact N') l1 (fun _ _ _ hx => nomatch hx) (fun _ hx => nomatch hx) ⟨ht, .inr ⟨c', hc, y.mono fun p hp => by simpa using hp⟩⟩
end
end Mine
end
section
open PySem PySem.W PyProof.Rows PySem.Calls
set_option Elab.async false
set_option maxRecDepth 100000
set_option maxHeartbeats 4000000
namespace Mine
theorem passing_all (n : Nat) : passing (fun _ => true) n 0 = List.range n := by
  unfold passing; rw [List.drop_zero]
  exact List.filter_eq_self.mpr fun _ _ => rfl
theorem join_txt' {sp : List Nat} (qs : List (List Nat)) : Txt.join (txt sp) (qs.map txt) = txt (joinL sp qs) := by
  first
    | exact join_txt qs
    | (unfold Txt.join; exact join_txt qs)
    | (unfold Txt.join; rw [StrLaws.glued_eq_join]; exact join_txt qs)
section
variable {M : Model} {A : Around} {E : Value → Shared → Prop} {s : Shared}
theorem genexprCode_hit {env : Env} {c P : Addr} {ps : Array Value} {pos : Pos} {qualname : Str} {scope : Scope} {cv : Value} {Q : Value → Shared → Prop} (hc : env.code = .ref c) (hok : s.heap.IsCode c P ps) (hf : codeAmong pos ps.toList = some cv)
    (hQ : Q cv s) : wpAny M A (genexprCode env pos qualname scope) Q E s := by
  obtain ⟨o, vs, file, tf, flags, tg, inF, text, tt, op, ho, hd, h11, h2, h7, h9, h10, hop, hpd, htr, hne⟩ := id hok
  unfold genexprCode codeAt
  rw [hc, if_neg (show ¬ ((Value.ref c == Value.none) = true) from Bool.false_ne_true)]
  refine wpAny_bind (wpAny_fieldsOf ho hd ?_)
  rw [h11]
  refine wpAny_bind (wpAny_fieldsOf hop hpd ?_)
  rw [hf]
  exact wpAny_pure hQ
end
section
variable {prog : Program} {w : World} {A : Around} {E : Value → Shared → Prop} {s : Shared} {h₀ : Heap} {L a c P : Addr} {m mg mb : Str → Option Value} {cn : Str} {cs : Scope} {cl0 : List (Str × Addr)} {rest rest0 : List (Addr × Obj)}
  {p : Program} {loose : List Str} {mean : ExcName → Option Value} {ps : Array Value}
def K_gen_eval.Pκ (elt : PySem.Expr) (iter : PySem.Expr) (x : Str) (px : Pos) (scope : Scope) (pos : Pos) (lpos : Pos) (qual : Str) (cl : List (Str × Addr)) (l : Addr) (vs : List Value) (qs : List (List Nat)) (Q : Value → Shared → Prop) : Prop :=
  ∀ (F : Fr h₀ L s.heap m) (N : News h₀ L s.heap ((P, tabObj ps) :: rest)) (T : Top p loose mean mg mb h₀) (C : CodeHd h₀ c P) (V : TabL h₀ L rest0 lpos qual ps) (off : ∀ q ∈ rest, q.1 ≠ P) (hpos : (((pos.line : Nat) : Int) == (lpos.line : Nat) && ((pos.col : Nat) : Int) == (lpos.col : Nat)) = false) (hh : A.handled = none) (hroom : A.depth < recursionLimit) (hco : scope.isCoroutine = false) (hclos : closureFor scope (envX cn cs L a (.ref c) cl0) = pure cl) (hcell : ∀ y ∈ scope.names, y.2 ≠ .cell) (h0 : scope.names.lookup (".0" : Str) = some NameKind.local) (hx : scope.names.lookup x = some .local) (hkind : scope.kind = .function) (hs : ∀ z, genFold iter (envX cn cs L a (.ref c) cl0) z = pure z) (hl : s.heap.IsList l vs.toArray) (hv : StrsAre vs qs) (hvl : vs.length ≤ 1000) (hiter : ∀ Q' : Value → Shared → Prop, Q' (.ref l) s → wpAny (model prog w) A (eval iter (envX cn cs L a (.ref c) cl0)) Q' E s) (hq : ∀ (code : Value) (Cf : Addr) (A' : Around) (E' : Value → Shared → Prop) (i : Nat) (q : List Nat) (t : Tok) (s₂ : Shared) (m₂ : Str → Option Value), A'.handled = none → qs[i]? = some q → s₂.heap.Ns Cf m₂ → m₂ x = some (.str (txt q) t) →
      wpAny (model prog w) A' (eval elt (genEnv scope cl Cf code builtinsNs (envX cn cs L a (.ref c) cl0))) (fun y s₃ => (∃ t', y = .str (txt q) t') ∧ Keeps s₂ s₃) E' s₂) (k : ∀ ga h' tk' gs' ps', Fr h₀ L h' m → News h₀ L h' ((P, tabObj ps') :: rest) → TabL h₀ L rest0 lpos qual ps' →
      (∀ (sp : List Nat) (t0 : Tok) (Q' E' : Value → Shared → Prop), (qs.map List.length).sum + qs.length * sp.length ≤ 100000 →
        (∀ h2 g2 tk2 t', Fr h₀ L h2 m → News h₀ L h2 ((P, tabObj ps') :: rest) → (AllBare s.gens → AllBare g2) → Q' (.str (txt (joinL sp qs)) t') { s with heap := h2, gens := g2, toks := tk2 }) →
        wpAny (model prog w) A (call (.builtin "str.join") [.str (txt sp) t0, .ref ga]) Q' E' { s with heap := h', gens := gs', toks := tk' }) →
      Q (.ref ga) { s with heap := h', gens := gs', toks := tk' }), wpAny (model prog w) A (eval (.GeneratorExp elt [⟨.Name x px, iter, [], 0⟩] scope pos) (envX cn cs L a (.ref c) cl0)) Q E s
end
namespace K_gen_eval
theorem ne : Nonempty ((Program) × (World) × (Around) × (Value → Shared → Prop) × (Shared) × (Heap) × (Addr) × (Addr) × (Addr) × (Addr) × (Str → Option Value) × (Str → Option Value) × (Str → Option Value) × (Str) × (Scope) × (List (Str × Addr)) × (List (Addr × Obj)) × (List (Addr × Obj)) × (Program) × (List Str) × (ExcName → Option Value) × (Array Value) × (PySem.Expr) × (PySem.Expr) × (Str) × (Pos) × (Scope) × (Pos) × (Pos) × (Str) × (List (Str × Addr)) × (Addr) × (List Value) × (List (List Nat)) × (Value → Shared → Prop)) := ⟨(Classical.ofNonempty, w0, ⟨none, 0, none, none, 0⟩, Classical.ofNonempty, {}, Classical.ofNonempty, Classical.ofNonempty, Classical.ofNonempty, Classical.ofNonempty, Classical.ofNonempty, Classical.ofNonempty, Classical.ofNonempty, Classical.ofNonempty, Classical.ofNonempty, Classical.ofNonempty, Classical.ofNonempty, Classical.ofNonempty, Classical.ofNonempty, Classical.ofNonempty, Classical.ofNonempty, Classical.ofNonempty, Classical.ofNonempty, Classical.ofNonempty, Classical.ofNonempty, Classical.ofNonempty, Classical.ofNonempty, Classical.ofNonempty, Classical.ofNonempty, Classical.ofNonempty, Classical.ofNonempty, Classical.ofNonempty, Classical.ofNonempty, Classical.ofNonempty, Classical.ofNonempty, Classical.ofNonempty)⟩
noncomputable def κ : (Program) × (World) × (Around) × (Value → Shared → Prop) × (Shared) × (Heap) × (Addr) × (Addr) × (Addr) × (Addr) × (Str → Option Value) × (Str → Option Value) × (Str → Option Value) × (Str) × (Scope) × (List (Str × Addr)) × (List (Addr × Obj)) × (List (Addr × Obj)) × (Program) × (List Str) × (ExcName → Option Value) × (Array Value) × (PySem.Expr) × (PySem.Expr) × (Str) × (Pos) × (Scope) × (Pos) × (Pos) × (Str) × (List (Str × Addr)) × (Addr) × (List Value) × (List (List Nat)) × (Value → Shared → Prop) := pick ne fun c => ¬ @Pκ (c.1) (c.2.1) (c.2.2.1) (c.2.2.2.1) (c.2.2.2.2.1) (c.2.2.2.2.2.1) (c.2.2.2.2.2.2.1) (c.2.2.2.2.2.2.2.1) (c.2.2.2.2.2.2.2.2.1) (c.2.2.2.2.2.2.2.2.2.1) (c.2.2.2.2.2.2.2.2.2.2.1) (c.2.2.2.2.2.2.2.2.2.2.2.1) (c.2.2.2.2.2.2.2.2.2.2.2.2.1) (c.2.2.2.2.2.2.2.2.2.2.2.2.2.1) (c.2.2.2.2.2.2.2.2.2.2.2.2.2.2.1) (c.2.2.2.2.2.2.2.2.2.2.2.2.2.2.2.1) (c.2.2.2.2.2.2.2.2.2.2.2.2.2.2.2.2.1) (c.2.2.2.2.2.2.2.2.2.2.2.2.2.2.2.2.2.1) (c.2.2.2.2.2.2.2.2.2.2.2.2.2.2.2.2.2.2.1) (c.2.2.2.2.2.2.2.2.2.2.2.2.2.2.2.2.2.2.2.1) (c.2.2.2.2.2.2.2.2.2.2.2.2.2.2.2.2.2.2.2.2.1) (c.2.2.2.2.2.2.2.2.2.2.2.2.2.2.2.2.2.2.2.2.2.1) (c.2.2.2.2.2.2.2.2.2.2.2.2.2.2.2.2.2.2.2.2.2.2.1) (c.2.2.2.2.2.2.2.2.2.2.2.2.2.2.2.2.2.2.2.2.2.2.2.1) (c.2.2.2.2.2.2.2.2.2.2.2.2.2.2.2.2.2.2.2.2.2.2.2.2.1) (c.2.2.2.2.2.2.2.2.2.2.2.2.2.2.2.2.2.2.2.2.2.2.2.2.2.1) (c.2.2.2.2.2.2.2.2.2.2.2.2.2.2.2.2.2.2.2.2.2.2.2.2.2.2.1) (c.2.2.2.2.2.2.2.2.2.2.2.2.2.2.2.2.2.2.2.2.2.2.2.2.2.2.2.1) (c.2.2.2.2.2.2.2.2.2.2.2.2.2.2.2.2.2.2.2.2.2.2.2.2.2.2.2.2.1) (c.2.2.2.2.2.2.2.2.2.2.2.2.2.2.2.2.2.2.2.2.2.2.2.2.2.2.2.2.2.1) (c.2.2.2.2.2.2.2.2.2.2.2.2.2.2.2.2.2.2.2.2.2.2.2.2.2.2.2.2.2.2.1) (c.2.2.2.2.2.2.2.2.2.2.2.2.2.2.2.2.2.2.2.2.2.2.2.2.2.2.2.2.2.2.2.1) (c.2.2.2.2.2.2.2.2.2.2.2.2.2.2.2.2.2.2.2.2.2.2.2.2.2.2.2.2.2.2.2.2.1) (c.2.2.2.2.2.2.2.2.2.2.2.2.2.2.2.2.2.2.2.2.2.2.2.2.2.2.2.2.2.2.2.2.2.1) (c.2.2.2.2.2.2.2.2.2.2.2.2.2.2.2.2.2.2.2.2.2.2.2.2.2.2.2.2.2.2.2.2.2.2)
noncomputable def prog : Program := κ.1
noncomputable def w : World := κ.2.1
noncomputable def A : Around := κ.2.2.1
noncomputable def E : Value → Shared → Prop := κ.2.2.2.1
noncomputable def s : Shared := κ.2.2.2.2.1
noncomputable def h₀ : Heap := κ.2.2.2.2.2.1
noncomputable def L : Addr := κ.2.2.2.2.2.2.1
noncomputable def a : Addr := κ.2.2.2.2.2.2.2.1
noncomputable def c : Addr := κ.2.2.2.2.2.2.2.2.1
noncomputable def P : Addr := κ.2.2.2.2.2.2.2.2.2.1
noncomputable def m : Str → Option Value := κ.2.2.2.2.2.2.2.2.2.2.1
noncomputable def mg : Str → Option Value := κ.2.2.2.2.2.2.2.2.2.2.2.1
noncomputable def mb : Str → Option Value := κ.2.2.2.2.2.2.2.2.2.2.2.2.1
noncomputable def cn : Str := κ.2.2.2.2.2.2.2.2.2.2.2.2.2.1
noncomputable def cs : Scope := κ.2.2.2.2.2.2.2.2.2.2.2.2.2.2.1
noncomputable def cl0 : List (Str × Addr) := κ.2.2.2.2.2.2.2.2.2.2.2.2.2.2.2.1
noncomputable def rest : List (Addr × Obj) := κ.2.2.2.2.2.2.2.2.2.2.2.2.2.2.2.2.1
noncomputable def rest0 : List (Addr × Obj) := κ.2.2.2.2.2.2.2.2.2.2.2.2.2.2.2.2.2.1
noncomputable def p : Program := κ.2.2.2.2.2.2.2.2.2.2.2.2.2.2.2.2.2.2.1
noncomputable def loose : List Str := κ.2.2.2.2.2.2.2.2.2.2.2.2.2.2.2.2.2.2.2.1
noncomputable def mean : ExcName → Option Value := κ.2.2.2.2.2.2.2.2.2.2.2.2.2.2.2.2.2.2.2.2.1
noncomputable def ps : Array Value := κ.2.2.2.2.2.2.2.2.2.2.2.2.2.2.2.2.2.2.2.2.2.1
noncomputable def elt : PySem.Expr := κ.2.2.2.2.2.2.2.2.2.2.2.2.2.2.2.2.2.2.2.2.2.2.1
noncomputable def iter : PySem.Expr := κ.2.2.2.2.2.2.2.2.2.2.2.2.2.2.2.2.2.2.2.2.2.2.2.1
noncomputable def x : Str := κ.2.2.2.2.2.2.2.2.2.2.2.2.2.2.2.2.2.2.2.2.2.2.2.2.1
noncomputable def px : Pos := κ.2.2.2.2.2.2.2.2.2.2.2.2.2.2.2.2.2.2.2.2.2.2.2.2.2.1
noncomputable def scope : Scope := κ.2.2.2.2.2.2.2.2.2.2.2.2.2.2.2.2.2.2.2.2.2.2.2.2.2.2.1
noncomputable def pos : Pos := κ.2.2.2.2.2.2.2.2.2.2.2.2.2.2.2.2.2.2.2.2.2.2.2.2.2.2.2.1
noncomputable def lpos : Pos := κ.2.2.2.2.2.2.2.2.2.2.2.2.2.2.2.2.2.2.2.2.2.2.2.2.2.2.2.2.1
noncomputable def qual : Str := κ.2.2.2.2.2.2.2.2.2.2.2.2.2.2.2.2.2.2.2.2.2.2.2.2.2.2.2.2.2.1
noncomputable def cl : List (Str × Addr) := κ.2.2.2.2.2.2.2.2.2.2.2.2.2.2.2.2.2.2.2.2.2.2.2.2.2.2.2.2.2.2.1
noncomputable def l : Addr := κ.2.2.2.2.2.2.2.2.2.2.2.2.2.2.2.2.2.2.2.2.2.2.2.2.2.2.2.2.2.2.2.1
noncomputable def vs : List Value := κ.2.2.2.2.2.2.2.2.2.2.2.2.2.2.2.2.2.2.2.2.2.2.2.2.2.2.2.2.2.2.2.2.1
noncomputable def qs : List (List Nat) := κ.2.2.2.2.2.2.2.2.2.2.2.2.2.2.2.2.2.2.2.2.2.2.2.2.2.2.2.2.2.2.2.2.2.1
noncomputable def Q : Value → Shared → Prop := κ.2.2.2.2.2.2.2.2.2.2.2.2.2.2.2.2.2.2.2.2.2.2.2.2.2.2.2.2.2.2.2.2.2.2
theorem core : @Pκ prog w A E s h₀ L a c P m mg mb cn cs cl0 rest rest0 p loose mean ps elt iter x px scope pos lpos qual cl l vs qs Q := by
  intro F N T C V off hpos hh hroom hco hclos hcell h0 hx hkind hs hl hv hvl hiter hq k
  obtain ⟨ht, V⟩ := V
  have hm := N (P, tabObj ps) (.head _)
  have hlim := T.nolimit.keeps F.keep
  have hlt : l < s.heap.objs.size := by obtain ⟨_, e, _⟩ := hl; exact Heap.lt_size e
  have hlP : l ≠ P := fun e => by
    obtain ⟨o, ho, hc, _⟩ := hl
    rw [e, hm.1] at ho; cases ho; exact absurd hc (by simp)
  obtain ⟨bm, ob, b1, b2, b3, b4, b5, b6⟩ := T.bmain
  refine wpAny_GeneratorExp_walksQ hh hco hclos hcell h0 hx hkind hroom (hiter _ ?_) hs
  refine wpAny_pyIter_list hl ⟨hlim.push _, ?_⟩
  have up : ∀ b o, s.heap.get? b = some o → (s.heap.push { cls := .type "list_iterator", data := .fields #[.ref l, .int 0 0] }).get? b = some o := fun b o e => Heap.get?_push_of_some _ e
  have hPs : P < s.heap.objs.size := Heap.lt_size hm.1
  have cont : ∀ (code : Value) (h₃ : Heap) (tk₃ : Nat) (ps' : Array Value), Heap.ExtBut P (s.heap.push { cls := .type "list_iterator", data := .fields #[.ref l, .int 0 0] }) h₃ → h₃.get? P = some (tabObj ps') → TabL h₀ L rest0 lpos qual ps' → s.heap.objs.size + 1 ≤ h₃.objs.size →
      wpAny (model prog w) A (builtinsFor (envX cn cs L a (.ref c) cl0).globals (envX cn cs L a (.ref c) cl0).builtins) (fun bi s₄ =>
        ∃ I fp wr n₀ Pi St₀ pz Fv, Value.ref s.heap.objs.size = .ref I ∧ (∀ A' : Around, A'.handled = none → Walks prog w A' I fp wr n₀ Pi St₀) ∧ St₀ 0 s₄.heap ∧ (∀ b ∈ fp, b < s₄.heap.objs.size) ∧ s₄.heap.NoLimit ∧ cStatics ∉ wr ∧
          (∀ href : Heap, (∀ b o, s₄.heap.get? b = some o → href.get? b = some o) →
            QuietGen prog w (genEnv scope cl s₄.heap.objs.size code bi (envX cn cs L a (.ref c) cl0)) x [] elt (List.range s₄.heap.objs.size) wr Pi pz Fv href) ∧
          (∀ a₁ h₅ tk gs, gs.bare = true → s₄.heap.objs.size < a₁ → h₅.objs.size = a₁ + 1 → (∀ b o, s₄.heap.get? b = some o → h₅.get? b = some o) →
            WalksS prog w A.in4 a₁ (a₁ :: s₄.heap.objs.size :: List.range s₄.heap.objs.size) (s₄.heap.objs.size :: wr) (GenOnlyQ s₄.gens.size) (passing pz n₀ 0).length
              (fun j y => ∃ i, (passing pz n₀ 0)[j]? = some i ∧ Fv i y) (GenAt prog w A.in4 a₁ s₄.gens.size s₄.heap.objs.size (List.range s₄.heap.objs.size) wr pz n₀ Fv) →
            GenAt prog w A.in4 a₁ s₄.gens.size s₄.heap.objs.size (List.range s₄.heap.objs.size) wr pz n₀ Fv 0 { s₄ with gens := s₄.gens.push gs, toks := tk, heap := h₅ } →
            Q (.ref a₁) { s₄ with gens := s₄.gens.push gs, toks := tk, heap := h₅ })) E { s with heap := h₃, toks := tk₃ } := by
    intro code h₃ tk₃ ps' hx₃ htab V' hsz
    have k3 : ∀ b o, b ≠ P → s.heap.get? b = some o → h₃.get? b = some o := fun b o hb e => hx₃ b o hb (up b o e)
    have F₃ : Fr h₀ L h₃ m := ⟨F.ns.at' fun o e => k3 _ _ (Ne.symm hm.2.1) e, fun b o e => k3 b o (fun q => by rw [q, hm.2.2] at e; cases e) (F.keep b o e), F.above⟩
    have N₃ : News h₀ L h₃ ((P, tabObj ps') :: rest) := fun q hq' => by
      rcases List.mem_cons.mp hq' with rfl | hq'
      · exact ⟨htab, hm.2⟩
      · exact ⟨k3 _ _ (off q hq') (N q (.tail _ hq')).1, (N q (.tail _ hq')).2⟩
    refine wpAny_builtinsFor (T.g.keeps F₃.keep) b1 b2 (F₃.keep _ _ b3) b4 b5 b6 ?_
    have hlim₃ := T.nolimit.keeps F₃.keep
    have hcI : cStatics < s.heap.objs.size := by obtain ⟨_, hn, _⟩ := hlim; exact hn.lt
    have hl₃ : h₃.IsList l vs.toArray := by obtain ⟨o, e, r⟩ := hl; exact ⟨o, k3 _ _ hlP e, r⟩
    refine ⟨s.heap.objs.size, [s.heap.objs.size, l], [s.heap.objs.size], vs.toArray.size, _, _, fun _ => true, fun i y => ∃ q t, qs[i]? = some q ∧ y = .str (txt q) t, rfl, fun A' hA => Walks.list hA _ _ (Nat.ne_of_lt hlt) vs.toArray,
      ⟨⟨_, hx₃ _ _ (Ne.symm (Nat.ne_of_lt hPs)) (Heap.get?_push_size _ rfl), rfl, rfl⟩, hl₃⟩, ?_, hlim₃, ?_, ?_, ?_⟩
    · intro b hb
      show b < h₃.objs.size
      rcases List.mem_cons.mp hb with rfl | hb
      · exact hsz
      · rw [List.mem_singleton.mp hb]; exact Nat.lt_of_lt_of_le (Nat.lt_succ_of_lt hlt) hsz
    · intro hb
      exact Nat.ne_of_lt hcI (List.mem_singleton.mp hb)
    · intro href hk
      refine ⟨fun A' E' i v s₂ m₂ hA hP hn hmx _ => ?_, fun A' E' i v s₂ m₂ hA hP _ hn hmx _ => ?_⟩
      · rw [List.forIn_nil]
        exact wpAny_pure ⟨rfl, s₂.heap, s₂.toks, rfl, fun _ _ e => e⟩
      · have hvi : vs[i]? = some v := by simpa using hP
        obtain ⟨q, hqi, t, rfl⟩ := hv.get hvi
        refine wpAny_mono (hq code h₃.objs.size A' E' i q t s₂ m₂ hA hqi hn hmx) (fun y s₃ h₃' => ?_) fun _ _ e => e
        obtain ⟨⟨t', rfl⟩, hk'⟩ := h₃'
        exact ⟨⟨q, t', hqi, rfl⟩, hk'⟩
    · intro ga h₅ tk gs hb hCa hsz5 hk5 W G
      refine k ga h₅ tk (s.gens.push gs) ps' (F₃.keeps hk5) (fun q hq' => ⟨hk5 _ _ (N₃ q hq').1, (N₃ q hq').2⟩) V' fun sp t0 Q' E' hsum hQ' => ?_
      refine SC.joinGen W.in4_2 (fun i s' st => st.1.typeIs) G ?_ (.head _) (fun i v hv' => ?_) (fun s' lt hmv hit => ?_) ?_
      · intro b hb'
        show b < h₅.objs.size
        rcases List.mem_cons.mp hb' with rfl | hb'
        · rw [hsz5]; exact Nat.lt_succ_self _
        · rcases List.mem_cons.mp hb' with rfl | hb'
          · rw [hsz5]; exact Nat.lt_succ_of_lt hCa
          · have := List.mem_range.mp hb'
            rw [hsz5]; exact Nat.lt_succ_of_lt (Nat.lt_trans this hCa)
      · obtain ⟨_, _, q, t, _, e⟩ := hv'
        exact ⟨_, _, e⟩
      · have hn : lt.length = qs.length := by
          have h1 := hit.1
          rw [passing_all] at h1
          simpa [strValues, hv.1] using h1
        have hmap : lt.map (·.1) = qs.map txt := by
          apply List.ext_getElem (by simp [hn])
          intro j h1 h2
          simp only [List.length_map] at h1 h2
          obtain ⟨i, hi, q, t, hqi, e⟩ := hit.2 j (.str lt[j].1 lt[j].2) (by simp [strValues, List.getElem?_eq_getElem h1])
          rw [passing_all] at hi
          have hij : i = j := by
            obtain ⟨hlt', e'⟩ := List.getElem?_eq_some_iff.mp hi
            simpa using e'.symm
          subst hij
          injection e with e1 _
          rw [List.getElem?_eq_getElem h2] at hqi
          simp only [List.getElem_map]
          rw [e1, Option.some.inj hqi]
        refine ⟨?_, fun t' k' => ?_⟩
        · unfold JoinOk
          rw [hmap, List.foldl_toArray, fold_len, sum_len, List.length_map, txt_length]
          have hz' : 100000 ≤ sizeLine := by decide
          unfold Builtin.Str.tooLong
          simp; lia
        · have e1 : Txt.join (txt sp) (lt.map (·.1)) = txt (joinL sp qs) := by rw [hmap]; exact join_txt' qs
          rw [e1]
          obtain ⟨sh, sg, sd, st, so⟩ := s'
          have hd' := hmv.drawn
          have ho' := hmv.os
          dsimp only at hd' ho' ⊢
          subst hd' ho'
          have low3 : ∀ b o, b < s.heap.objs.size → h₃.get? b = some o → sh.get? b = some o := fun b o hb' e => hmv.heap b o (fun hm' => by
            rcases List.mem_cons.mp hm' with q | q
            · have q' : b = h₃.objs.size := q
              lia
            · have q' : b = s.heap.objs.size := List.mem_singleton.mp q
              lia) (hk5 b o e)
          refine hQ' sh sg _ t' ⟨F₃.ns.at' fun o e => low3 _ _ F.ns.lt e, fun b o e => low3 b o (Heap.lt_size (F.keep b o e)) (F₃.keep b o e), F.above⟩ (fun q hq' => ⟨low3 _ _ ?_ (N₃ q hq').1, (N₃ q hq').2⟩) fun ab => hmv.gens.bare (AllBare.push ab hb)
          rcases List.mem_cons.mp hq' with rfl | hq'
          · exact hPs
          · exact Heap.lt_size (N q (.tail _ hq')).1
      · rw [passing_all, List.length_range, List.size_toArray]
        exact Nat.le_trans hvl (by decide)
  cases hg : codeAmong pos ps.toList with
  | some cv =>
    refine genexprCode_hit rfl ((C.keeps fun b o e => up b o (F.keep b o e)).code (up _ _ hm.1) ht) hg ?_
    exact cont cv _ _ ps (fun _ _ _ e => e) (up _ _ hm.1) ⟨ht, V⟩ (by rw [Heap.size_push]; exact Nat.le_refl _)
  | none =>
    refine wpAny_genexprCodeX rfl ((C.keeps fun b o e => up b o (F.keep b o e)).code (up _ _ hm.1) ht) ((C.keeps fun b o e => up b o (F.keep b o e)).tab (up _ _ hm.1)) hg fun c' h₃ tk₃ hx₃ hge hlt₃ hcode₃ _ htab₃ _ => ?_
    have hl' : (ps ++ #[rawInt pos.line, rawInt pos.col, Value.ref c']).toList = ps.toList ++ [rawInt pos.line, rawInt pos.col, .ref c'] := by simp
    refine cont (.ref c') h₃ tk₃ (ps ++ #[rawInt pos.line, rawInt pos.col, .ref c']) hx₃ htab₃.2 ⟨by rw [hl']; exact TriplesOk_snoc _ _ _ _ ht, ?_⟩ (by
      have h1 : (s.heap.push { cls := .type "list_iterator", data := .fields #[.ref l, .int 0 0] }).objs.size ≤ c' := hge
      rw [Heap.size_push] at h1
      exact Nat.le_trans h1 (Nat.le_of_lt hlt₃))
    rw [hl']
    rcases V with V | ⟨c2, e2, y⟩
    · exact .inl (among_none hpos _ ht V)
    · exact .inr ⟨c2, among_some _ ht e2, y⟩
end K_gen_eval
section
variable {prog : Program} {w : World} {A : Around} {E : Value → Shared → Prop} {s : Shared} {h₀ : Heap} {L a c P : Addr} {m mg mb : Str → Option Value} {cn : Str} {cs : Scope} {cl0 : List (Str × Addr)} {rest rest0 : List (Addr × Obj)}
  {p : Program} {loose : List Str} {mean : ExcName → Option Value} {ps : Array Value}
theorem gen_eval {elt iter : PySem.Expr} {x : Str} {px : Pos} {scope : Scope} {pos lpos : Pos} {qual : Str} {cl : List (Str × Addr)} {l : Addr} {vs : List Value} {qs : List (List Nat)} {Q : Value → Shared → Prop}
    (F : Fr h₀ L s.heap m) (N : News h₀ L s.heap ((P, tabObj ps) :: rest)) (T : Top p loose mean mg mb h₀) (C : CodeHd h₀ c P) (V : TabL h₀ L rest0 lpos qual ps) (off : ∀ q ∈ rest, q.1 ≠ P)
    (hpos : (((pos.line : Nat) : Int) == (lpos.line : Nat) && ((pos.col : Nat) : Int) == (lpos.col : Nat)) = false)
    (hh : A.handled = none) (hroom : A.depth < recursionLimit) (hco : scope.isCoroutine = false) (hclos : closureFor scope (envX cn cs L a (.ref c) cl0) = pure cl) (hcell : ∀ y ∈ scope.names, y.2 ≠ .cell)
    (h0 : scope.names.lookup (".0" : Str) = some NameKind.local) (hx : scope.names.lookup x = some .local) (hkind : scope.kind = .function) (hs : ∀ z, genFold iter (envX cn cs L a (.ref c) cl0) z = pure z)
    (hl : s.heap.IsList l vs.toArray) (hv : StrsAre vs qs) (hvl : vs.length ≤ 1000)
    (hiter : ∀ Q' : Value → Shared → Prop, Q' (.ref l) s → wpAny (model prog w) A (eval iter (envX cn cs L a (.ref c) cl0)) Q' E s)
    (hq : ∀ (code : Value) (Cf : Addr) (A' : Around) (E' : Value → Shared → Prop) (i : Nat) (q : List Nat) (t : Tok) (s₂ : Shared) (m₂ : Str → Option Value), A'.handled = none → qs[i]? = some q → s₂.heap.Ns Cf m₂ → m₂ x = some (.str (txt q) t) →
      wpAny (model prog w) A' (eval elt (genEnv scope cl Cf code builtinsNs (envX cn cs L a (.ref c) cl0))) (fun y s₃ => (∃ t', y = .str (txt q) t') ∧ Keeps s₂ s₃) E' s₂)
    (k : ∀ ga h' tk' gs' ps', Fr h₀ L h' m → News h₀ L h' ((P, tabObj ps') :: rest) → TabL h₀ L rest0 lpos qual ps' →
      (∀ (sp : List Nat) (t0 : Tok) (Q' E' : Value → Shared → Prop), (qs.map List.length).sum + qs.length * sp.length ≤ 100000 →
        (∀ h2 g2 tk2 t', Fr h₀ L h2 m → News h₀ L h2 ((P, tabObj ps') :: rest) → (AllBare s.gens → AllBare g2) → Q' (.str (txt (joinL sp qs)) t') { s with heap := h2, gens := g2, toks := tk2 }) →
        wpAny (model prog w) A (call (.builtin "str.join") [.str (txt sp) t0, .ref ga]) Q' E' { s with heap := h', gens := gs', toks := tk' }) →
      Q (.ref ga) { s with heap := h', gens := gs', toks := tk' }) :
    wpAny (model prog w) A (eval (.GeneratorExp elt [⟨.Name x px, iter, [], 0⟩] scope pos) (envX cn cs L a (.ref c) cl0)) Q E s :=
  pickAll K_gen_eval.ne (P := fun c => @K_gen_eval.Pκ (c.1) (c.2.1) (c.2.2.1) (c.2.2.2.1) (c.2.2.2.2.1) (c.2.2.2.2.2.1) (c.2.2.2.2.2.2.1) (c.2.2.2.2.2.2.2.1) (c.2.2.2.2.2.2.2.2.1) (c.2.2.2.2.2.2.2.2.2.1) (c.2.2.2.2.2.2.2.2.2.2.1) (c.2.2.2.2.2.2.2.2.2.2.2.1) (c.2.2.2.2.2.2.2.2.2.2.2.2.1) (c.2.2.2.2.2.2.2.2.2.2.2.2.2.1) (c.2.2.2.2.2.2.2.2.2.2.2.2.2.2.1) (c.2.2.2.2.2.2.2.2.2.2.2.2.2.2.2.1) (c.2.2.2.2.2.2.2.2.2.2.2.2.2.2.2.2.1) (c.2.2.2.2.2.2.2.2.2.2.2.2.2.2.2.2.2.1) (c.2.2.2.2.2.2.2.2.2.2.2.2.2.2.2.2.2.2.1) (c.2.2.2.2.2.2.2.2.2.2.2.2.2.2.2.2.2.2.2.1) (c.2.2.2.2.2.2.2.2.2.2.2.2.2.2.2.2.2.2.2.2.1) (c.2.2.2.2.2.2.2.2.2.2.2.2.2.2.2.2.2.2.2.2.2.1) (c.2.2.2.2.2.2.2.2.2.2.2.2.2.2.2.2.2.2.2.2.2.2.1) (c.2.2.2.2.2.2.2.2.2.2.2.2.2.2.2.2.2.2.2.2.2.2.2.1) (c.2.2.2.2.2.2.2.2.2.2.2.2.2.2.2.2.2.2.2.2.2.2.2.2.1) (c.2.2.2.2.2.2.2.2.2.2.2.2.2.2.2.2.2.2.2.2.2.2.2.2.2.1) (c.2.2.2.2.2.2.2.2.2.2.2.2.2.2.2.2.2.2.2.2.2.2.2.2.2.2.1) (c.2.2.2.2.2.2.2.2.2.2.2.2.2.2.2.2.2.2.2.2.2.2.2.2.2.2.2.1) (c.2.2.2.2.2.2.2.2.2.2.2.2.2.2.2.2.2.2.2.2.2.2.2.2.2.2.2.2.1) (c.2.2.2.2.2.2.2.2.2.2.2.2.2.2.2.2.2.2.2.2.2.2.2.2.2.2.2.2.2.1) (c.2.2.2.2.2.2.2.2.2.2.2.2.2.2.2.2.2.2.2.2.2.2.2.2.2.2.2.2.2.2.1) (c.2.2.2.2.2.2.2.2.2.2.2.2.2.2.2.2.2.2.2.2.2.2.2.2.2.2.2.2.2.2.2.1) (c.2.2.2.2.2.2.2.2.2.2.2.2.2.2.2.2.2.2.2.2.2.2.2.2.2.2.2.2.2.2.2.2.1) (c.2.2.2.2.2.2.2.2.2.2.2.2.2.2.2.2.2.2.2.2.2.2.2.2.2.2.2.2.2.2.2.2.2.1) (c.2.2.2.2.2.2.2.2.2.2.2.2.2.2.2.2.2.2.2.2.2.2.2.2.2.2.2.2.2.2.2.2.2.2)) K_gen_eval.core (prog, w, A, E, s, h₀, L, a, c, P, m, mg, mb, cn, cs, cl0, rest, rest0, p, loose, mean, ps, elt, iter, x, px, scope, pos, lpos, qual, cl, l, vs, qs, Q) F N T C V off hpos hh hroom hco hclos hcell h0 hx hkind hs hl hv hvl hiter hq k
end
end Mine
end
section
open PySem PySem.W PyProof.Rows PySem.Calls PySem.Builtin.Str
set_option Elab.async false
set_option maxRecDepth 100000
set_option maxHeartbeats 4000000
namespace Mine
/-- a list's bound append -/
def bnd (l : Addr) : Obj := { cls := .type "builtin_function_or_method", data := .fields #[.builtin "list.append", .ref l] }
theorem md_slot : Slot "method_descriptor" "__get__" "method_descriptor.__get__" :=
  .of (owner := "method_descriptor") (n := "__get__") (by rw [typeLookup_type, builtinLookup_eq_fast]; kernel_rfl) (by decide +kernel) (by decide +kernel) (by decide +kernel)
    (by first | exact .inl (by decide +kernel) | exact .inr (by decide +kernel)) (by rw [isSubtype_type]; kernel_rfl)
theorem md_entry : entryFor table "method_descriptor.__get__" = some Builtin.«method_descriptor.__get__» := entryFor_of_tree (by kernel_rfl)
theorem md_args (a b c : Value) : argsOk "method_descriptor.__get__" ⟨[a, b, c], []⟩ := by unfold argsOk; kernel_rfl
section
variable {prog : Program} {w : World} {A : Around} {E : Value → Shared → Prop} {s : Shared}
theorem md_run {P : Fin → Shared → Prop} {l : Addr} (hT : s.TypeIs (.ref l) "list") (h : P (.done (.ret (.ref s.heap.objs.size))) { s with heap := s.heap.push (bnd l) }) :
    wpAny (model prog w) A (Builtin.«method_descriptor.__get__» ⟨[.builtin "list.append", .ref l, .type "list"], []⟩) P E s := by
  unfold Builtin.«method_descriptor.__get__»
  refine wpAny_bind (wpAny_of_eq (a := (.builtin "list.append", some (.ref l), some (.type "list"))) (by first | rfl | kernel_rfl) ?_)
  repeat (any_goals (first | assumption | wp_step))
  have e0 : ".".intercalate ("list.append".cutAt '.').dropLast = "list" := by first | decide +kernel | kernel_rfl
  rw [e0]
  refine wpAny_of_eq (a := true) (by rw [isSubtype_type]; kernel_rfl) ?_
  simp only [Bool.not_true, Bool.false_eq_true, if_false]
  refine wpAny_pure (wpAny_bind ?_)
  unfold newFields
  exact wpAny_newObj_type (wpAny_pure h)
end
theorem meets_getattribute_append (a : Addr) (xs : Array Value) (k : Nat) (sl : Array (Option Value)) (u : Tok) :
    Meets (Builtin.«object.__getattribute__» ⟨[.ref a, .str (Str.ofString "append") u], []⟩) (fun _ R s => s.heap.get? a = some { cls := .type "list", dict := none, data := .seq xs k, slots := sl } ∧ R (.ok (.ret (.ref s.heap.objs.size))) { s with heap := s.heap.push (bnd a) }) :=
  Meets.of_wp fun prog w A R s hs => by
    obtain ⟨hp, g, d, tk, os⟩ := s
    obtain ⟨hx, hs⟩ := hs
    have hT : (⟨hp, g, d, tk, os⟩ : Shared).TypeIs (.ref a) "list" := ⟨_, hx, rfl⟩
    have f1 := PySem.F.slot_list_append.lookup
    have f2 := PySem.F.type_list_append
    have g1 : typeLookup (.type "method_descriptor") "__get__" = pure (some (.builtin "method_descriptor.__get__")) := by rw [typeLookup_type, builtinLookup_eq_fast]; kernel_rfl
    have g2 : typeLookup (.type "method_descriptor") "__set__" = pure none := by rw [typeLookup_type, builtinLookup_eq_fast]; kernel_rfl
    have g3 : typeLookup (.type "method_descriptor") "__delete__" = pure none := by rw [typeLookup_type, builtinLookup_eq_fast]; kernel_rfl
    have hname : (["__module__", "__name__", "__qualname__", "__doc__", "__annotations__"] : List Str).contains (Str.ofString "append") = false := by decide +kernel
    unfold Builtin.«object.__getattribute__»
    repeat (any_goals (first | assumption | ((with_reducible show wpAny _ _ (call (Value.builtin "method_descriptor.__get__") _ _) _ _ _); refine wpAny_call_entry md_slot (by exact f2) md_entry (md_run hT ⟨_, rfl, ?_⟩) (md_args _ _ _)) | wp_step))
    exact ⟨_, rfl, hs⟩
section
variable {prog : Program} {w : World} {A : Around} {E : Value → Shared → Prop} {s : Shared} {h₀ : Heap} {L : Addr} {m : Str → Option Value} {news : List (Addr × Obj)}
theorem getAttr_append {l : Addr} {o : Obj} {xs : Array Value} {k : Nat} {Q : Value → Shared → Prop} (hx : s.heap.get? l = some o) (hc : o.cls = .type "list") (hdat : o.data = .seq xs k) (hdc : o.dict = none)
    (h : ∀ tk, Q (.ref s.heap.objs.size) { s with heap := s.heap.push (bnd l), toks := tk }) :
    wpAny (model prog w) A (getAttr (.ref l) (Str.ofString "append") true) Q E s := by
  obtain ⟨c, dct, dat, sl⟩ := o
  simp only at hc hdat hdc
  subst hc hdat hdc
  obtain ⟨hp, g, d, tk, os⟩ := s
  have hT : ∀ tk', (⟨hp, g, d, tk', os⟩ : Shared).TypeIs (.ref l) "list" := fun _ => ⟨_, hx, rfl⟩
  have f3 := PySem.F.slot_list_getattribute.lookup
  have f4 := PySem.F.slot_list_getattribute.bind (.ref l)
  unfold getAttr getAttrBy
  repeat (any_goals (first | assumption | exact hT _ | ((with_reducible show wpAny _ _ (call (Value.builtin "list.__getattribute__") _ _) _ _ _); refine call_meets PySem.F.slot_list_getattribute (hT _) am_entry_list_getattribute (PySem.F.args_list_getattribute_2 _ _) (meets_getattribute_append l xs k sl _) ⟨hx, ?_⟩) | wp_step))
  show wpAny _ _ (handedOut (Value.ref hp.objs.size)) Q E _
  exact wpAny_pure (h (tk + 1))
theorem if_so' {α : Type} {M : Model} {c : Bool} {a b : Sem α} {A : Around} {E : Value → Shared → Prop} {s : Shared} {Q : α → Shared → Prop} (hc : c = true) (h : wpAny M A a Q E s) : wpAny M A (if c = true then a else b) Q E s := by
  subst hc; exact h
theorem check_add {D : Addr} {x : Value} {its : Array Value} {n : Nat} {Q : Unit → Shared → Prop} (ho : s.heap.get? D = some { cls := .type "list", data := .seq its n }) (h : Q () s) : wpAny (model prog w) A (checkBoundCall "list.append" ⟨[.ref D, x], []⟩) Q E s := by
  obtain ⟨hp, g, d, tk, os⟩ := s
  have hT : (⟨hp, g, d, tk, os⟩ : Shared).TypeIs (.ref D) "list" := ⟨_, ho, rfl⟩
  have f1 : isSubtype (.type "list") (.type "module") = pure false := by rw [isSubtype_type]; kernel_rfl
  have f2 : isSubtype (.type "list") (.type "type") = pure false := by rw [isSubtype_type]; kernel_rfl
  have hsig : Manifest.signature? "list.append" = some ⟨.oneArg, "list.append", "append", .self, [⟨"object", .posOnly, true⟩]⟩ := by first | kernel_rfl | (rw [signature?_of (id := "list.append") (n := ['d', 'n', 'e', 'p', 'p', 'a']) (o := ['t', 's', 'i', 'l']) (by kernel_rfl) PySem.F.owner_list]; kernel_rfl)
  have hk : builtinKind "list.append" = some .method := by kernel_rfl
  unfold checkBoundCall
  rw [hsig, hk]
  repeat (any_goals (first | assumption | wp_step))
/-- the bound append is called -/
theorem call_add {b D : Addr} {its : Array Value} {n : Nat} {x : Value} {Q : Value → Shared → Prop} (hb : s.heap.get? b = some (bnd D)) (ho : s.heap.get? D = some { cls := .type "list", data := .seq its n })
    (h : ∀ h', Heap.SameBut D s.heap h' → h'.get? D = some { cls := .type "list", data := .seq (its.push x) (n + 1) } → Q .none { s with heap := h' }) (hsz : its.size ≤ sizeLine) :
    wpAny (model prog w) A (call (.ref b) [x]) Q E s := by
  refine wpAny_call (codeAny_of_tree ?_)
  show wpAny _ A.in1 (callAny (.ref b) ⟨[x], []⟩) _ _ s
  simp only [callAny]
  refine wpAny_bind (wpAny_load hb ?_)
  simp only [bnd, show (Value.type "builtin_function_or_method" == Value.type "method" || Value.type "builtin_function_or_method" == Value.type "builtin_function_or_method" || Value.type "builtin_function_or_method" == Value.type "method-wrapper") = true by decide, if_true]
  refine if_so' (by decide) ?_
  refine wpAny_bind (check_add ho ?_)
  refine wpAny_bind (wpAny_pure (wpAny_pure ?_))
  refine ⟨Code.quiet_builtin _ (by decide +kernel), codeAny_builtin entry_list_append ?_⟩
  show wpAny _ _ (updateSeq D (·.push x) >>= fun _ => ret .none) _ _ s
  refine wpAny_bind ?_
  refine wpAny_updateSeq ho rfl (wpAny_pure (h _ (Heap.SameBut.update ..) ?_))
  rw [Heap.get?_update_self _ ho (by rw [mapSeq_push]; rfl), mapSeq_push]
end
end Mine
end
section
open PySem PySem.W PyProof.Rows PySem.Calls
set_option Elab.async false
set_option maxRecDepth 100000
set_option maxHeartbeats 4000000
namespace Mine
section
variable {prog : Program} {w : World} {A : Around} {s : Shared} {env : Env} {h₀ : Heap} {L : Addr} {m : Str → Option Value}
/-- where a while is left -/
def XEnd (h₀ : Heap) (L : Addr) (s : Shared) (P : (Str → Option Value) → List (Addr × Obj) → Prop) (s' : Shared) : Prop :=
  ∃ h' tk' m' news', s' = { s with heap := h', toks := tk' } ∧ Fr h₀ L h' m' ∧ News h₀ L h' news' ∧ P m' news'
theorem XEnd.mk {P : (Str → Option Value) → List (Addr × Obj) → Prop} {h' : Heap} {tk' : Nat} {m' : Str → Option Value} {news' : List (Addr × Obj)}
    (F : Fr h₀ L h' m') (N : News h₀ L h' news') (hP : P m' news') : XEnd h₀ L s P { s with heap := h', toks := tk' } := ⟨h', tk', m', news', rfl, F, N, hP⟩
def XPost (h₀ : Heap) (L : Addr) (s : Shared) (Q : Flow → Shared → Prop) (P : (Str → Option Value) → List (Addr × Obj) → Prop) (f : Flow) (s' : Shared) : Prop :=
  match f with
  | .next => XEnd h₀ L s P s'
  | f => Q f s'
theorem my_whileP {test : Expr} {body : List Stmt} {pos : Pos} {news : List (Addr × Obj)} {Q : Flow → Shared → Prop} (J : Nat → (Str → Option Value) → List (Addr × Obj) → Prop) (P : (Str → Option Value) → List (Addr × Obj) → Prop) {n₀ : Nat}
    (F : Fr h₀ L s.heap m) (N : News h₀ L s.heap news) (hJ : J n₀ m news)
    (turn : ∀ n m₁ news₁ h₁ tk₁, J n m₁ news₁ → Fr h₀ L h₁ m₁ → News h₀ L h₁ news₁ →
      wpAny (model prog w) A (isTrue test env (eval test env)) (fun b s₂ => if b = true then wpAny (model prog w) A (execs body env) (WPost h₀ L s (XPost h₀ L s Q P) J n) FF s₂ else XEnd h₀ L s P s₂) FF { s with heap := h₁, toks := tk₁ })
    (fin : ∀ m₁ news₁ h₁ tk₁, P m₁ news₁ → Fr h₀ L h₁ m₁ → News h₀ L h₁ news₁ → Q .next { s with heap := h₁, toks := tk₁ }) :
    wpAny (model prog w) A (exec (.While test body [] pos) env) Q FF s := by
  refine wpAny_mono (my_while (Q := XPost h₀ L s Q P) J F N hJ turn) (fun f s' h => ?_) fun _ _ e => e
  cases f with
  | next =>
    obtain ⟨h', tk', m', news', rfl, F', N', hP⟩ := h
    exact fin m' news' h' tk' hP F' N'
  | _ => exact h
end
section
variable {prog : Program} {w : World} {A : Around} {E : Value → Shared → Prop} {s : Shared} {h₀ : Heap} {L : Addr} {m : Str → Option Value} {all rest : List (Addr × Obj)}
theorem add_own {b R : Addr} {rv : List Value} {n : Nat} {x : Value} {Q : Value → Shared → Prop} (F : Fr h₀ L s.heap m) (N : News h₀ L s.heap all) (hb : (b, bnd R) ∈ all) (hR : (R, W.listOf rv.toArray n) ∈ all) (hbR : @Ne Nat b R) (hrest : ∀ p ∈ rest, p ∈ all) (off : ∀ p ∈ rest, p.1 ≠ R) (hsz : rv.length ≤ 100000)
    (k : ∀ h', Fr h₀ L h' m → News h₀ L h' ((b, bnd R) :: (R, W.listOf (rv ++ [x]).toArray (n + 1)) :: rest) → Q .none { s with heap := h' }) :
    wpAny (model prog w) A (call (.ref b) [x]) Q E s := by
  have zR := N _ hR
  have zb := N _ hb
  refine call_add (D := R) (its := rv.toArray) (n := n) zb.1 zR.1 (fun h' hs ho => k h' (F.change hs zR.2.1 zR.2.2) fun p hp => ?_) (Nat.le_trans (by rw [List.size_toArray]; exact hsz) (by decide))
  rcases List.mem_cons.mp hp with rfl | hp
  · exact ⟨(hs.2 _ hbR).trans zb.1, zb.2⟩
  · rcases List.mem_cons.mp hp with rfl | hp
    · refine ⟨ho.trans (congrArg some ?_), zR.2⟩
      show ({ cls := .type "list", data := .seq (rv.toArray.push x) (n + 1) } : Obj) = W.listOf (rv ++ [x]).toArray (n + 1)
      rw [List.push_toArray]
    · have z := N p (hrest p hp)
      exact ⟨(hs.2 _ (off p hp)).trans z.1, z.2⟩
theorem get_add {R : Addr} {rv : List Value} {n : Nat} {rest : List (Addr × Obj)} {Q : Value → Shared → Prop} (F : Fr h₀ L s.heap m) (N : News h₀ L s.heap ((R, W.listOf rv.toArray n) :: rest))
    (k : ∀ R' b h' tk, R' = R → Fr h₀ L h' m → News h₀ L h' ((b, bnd R) :: (R, W.listOf rv.toArray n) :: rest) → @Ne Nat b R → (∀ p ∈ rest, p.1 < b) → L < b → Q (.ref b) { s with heap := h', toks := tk }) :
    wpAny (model prog w) A (getAttr (.ref R) (Str.ofString "append") true) Q E s := by
  refine getAttr_append (N _ (.head _)).1 rfl rfl rfl fun tk => k _ _ _ tk rfl (F.push _) (fun p hp => ?_) (Nat.ne_of_gt (Heap.lt_size (N _ (.head _)).1)) (fun p hp => Heap.lt_size (N p (.tail _ hp)).1) F.ns.lt
  rcases List.mem_cons.mp hp with rfl | hp
  · exact ⟨Heap.get?_push_size _ rfl, Nat.ne_of_gt F.ns.lt, next_is_new F⟩
  · exact ⟨Heap.get?_push_of_some _ (N p hp).1, (N p hp).2⟩
end
/-- what stands behind the first run -/
def tailO : List (List (List Nat)) → List (Option (List Nat))
  | [] => []
  | r :: rs => none :: (r.map some ++ tailO rs)
def goodR : List (List (List Nat)) → Prop
  | [] => True
  | [_] => True
  | r :: r2 :: rs => r ≠ [] ∧ goodR (r2 :: rs)
def tailR : List (List (List Nat)) → List Nat
  | [] => []
  | [r] => [46, 42] ++ r.flatten
  | r :: r2 :: rs => [40, 63, 62, 46, 42, 63] ++ r.flatten ++ [41] ++ tailR (r2 :: rs)
def PartR (star : Addr) (v : Value) (p : Option (List Nat)) : Prop :=
  match p with
  | none => v = .ref star
  | some q => ∃ t, v = .str (txt q) t
theorem part_at {star : Addr} {pv : List Value} {parts : List (Option (List Nat))} {i : Nat} {p : Option (List Nat)} {r : List (Option (List Nat))} (h : All2 (PartR star) pv parts) (hd : parts.drop i = p :: r) : ∃ v, pv[i]? = some v ∧ PartR star v p ∧ i < parts.length ∧ parts.drop (i + 1) = r := by
  have hi : i < parts.length := Nat.lt_of_not_le fun z => by rw [List.drop_of_length_le z] at hd; cases hd
  have hp : parts[i]? = some p := by
    have : (parts.drop i)[0]? = some p := by rw [hd]; rfl
    rw [List.getElem?_drop] at this; simpa using this
  have hi' : i < pv.length := h.1 ▸ hi
  refine ⟨pv[i], List.getElem?_eq_getElem hi', h.2 i _ _ (List.getElem?_eq_getElem hi') hp, hi, ?_⟩
  rw [← List.drop_drop, hd]; rfl
end Mine
namespace Mine
section
variable {prog : Program} {w : World} {A : Around} {E : Value → Shared → Prop} {s : Shared}
theorem item_atZ {value slice : PySem.Expr} {l : Addr} {vs : List Value} {z : Int} {x : Value} {u : Tok} {Q : Value → Shared → Prop} (hl : s.heap.IsList l vs.toArray) (hx : vs[z.toNat]? = some x) (hz : 0 ≤ z) (hfit : z < 2 ^ 63) (h : Q x s)
    (hs : subscripted slice false (.ref l) (.int z u) = operate [.ref l, .int z u] (getItem (.ref l) (.int z u))) :
    wpAny (model prog w) A (subscriptTail value slice (.ref l) (.int z u)) Q E s :=
  tail_any hl.typeIs slot_list_getitem.lookup (wpAny_getItem_list hl hz hfit (by simpa using hx) h) hs
end
theorem tail_len {r : List (List Nat)} {rs : List (List (List Nat))} : r.flatten.length ≤ (tailR (r :: rs)).length := by
  cases rs with
  | nil => simp only [tailR, List.length_append]; lia
  | cons a b => simp only [tailR, List.length_append]; lia
end Mine
namespace Mine
def BndAt (u R : Addr) (h : Heap) : Prop := h.get? u = some (bnd R)
section
variable {M : Model} {A : Around} {E : Value → Shared → Prop} {s : Shared} {h₀ : Heap} {L : Addr} {news : List (Addr × Obj)}
theorem bnd_at {u R : Addr} {h : Heap} (N : News h₀ L h news) (hm : (u, bnd R) ∈ news) : BndAt u R h := (N _ hm).1
theorem keeper_bnd {u R : Addr} {Q : Keeper → Shared → Prop} (ho : s.heap.get? u = some (bnd R)) (h : Q .machine s) : wpAny M A (keeperOf (.ref u)) Q E s := by
  refine wpAny_bind (wpAny_load ho ?_)
  refine wpAny_of_eq (a := .machine) ?_ h
  rw [bnd]
  show (if (Value.type "builtin_function_or_method" != Value.type "method") = true then _ else _) = _
  rw [if_pos (by decide)]
  show (pure (if (Value.type "builtin_function_or_method" == Value.type "builtin_function_or_method" || Value.type "builtin_function_or_method" == Value.type "method-wrapper") = true then Keeper.machine else Keeper.caller) : Sem Keeper) = _
  rw [if_pos (by decide)]
theorem callWith_flds {pos : Pos} {u R : Addr} {first : List Value} {args : List (Bool × Sem Value)} {Q : Value → Shared → Prop} (hplain : args.any (·.1) = false)
    (h : wpAny M A (evalArgs (.ref u) true args []) (fun x s₁ => BndAt u R s₁.heap ∧ wpAny M A (call (.ref u) (first ++ x.pos) x.kw) Q E s₁) E s) : wpAny M A (callWith pos (.ref u) first args []) Q E s := by
  refine wpAny_bind (wpAny_holding (wpAny_mono h (fun x s₁ h₁ => wpAny_bind (wpAny_standAt ?_)) fun _ _ x => x))
  rw [hplain]
  exact wpAny_bind (keeper_bnd h₁.1 (wpAny_bind (wpAny_mono h₁.2 (fun r s₂ hr => wpAny_bind (wpAny_holding (wpAny_point (wpAny_pure hr)))) fun _ _ x => x)))
theorem callWith_bnd {pos : Pos} {u R : Addr} {first : List Value} {env : Env} {e : Expr} {rest : List Expr} {Q : Value → Shared → Prop} (_N : News h₀ L s.heap news) (_hm : (u, bnd R) ∈ news)
    (h : wpAny M A (spliced (backTo pos (starEach (e :: rest) env))) (fun vs s₁ => BndAt u R s₁.heap ∧ wpAny M A (call (.ref u) (first ++ vs)) Q E s₁) E s)
    (he : starEach (e :: rest) env = (false, eval e env) :: starEach rest env := by rfl) (hplain : (backTo pos (starEach rest env)).any (·.1) = false := by rfl) :
    wpAny M A (callWith pos (.ref u) first (backTo pos (starEach (e :: rest) env)) []) Q E s := by
  rw [he] at h ⊢
  refine callWith_flds (R := R) (by show (false || (backTo pos (starEach rest env)).any (·.1)) = false; rw [hplain]; rfl) ?_
  exact evalArgs_plain h
end
end Mine
end
section
open PySem PySem.W PyProof.Rows PySem.Calls
set_option Elab.async false
set_option maxRecDepth 100000
set_option maxHeartbeats 4000000
namespace Mine
/-- a call that may fill the code table P and run generators -/
def SpecG (w : World) (f : Addr) (vs : List Value) (D U : Nat) (h₀ : Heap) (P : Addr) (V : Heap → Obj → Prop) (R : List (Addr × Obj) → Value → Prop) : Prop :=
  ∀ (A : Around) (s : Shared) (Q E : Value → Shared → Prop) (o : Obj), A.handled = none → A.depth + D < recursionLimit → A.units + U < cLine → Kp h₀ s.heap → h₀.get? P = none → s.heap.get? P = some o → V s.heap o →
    (∀ v tl h' tk' g' o', (∀ b x, b ≠ P → s.heap.get? b = some x → h'.get? b = some x) → h'.get? P = some o' → V h' o' → (∀ p ∈ tl, h'.get? p.1 = some p.2 ∧ p.1 ≠ P ∧ s.heap.get? p.1 = none) → (AllBare s.gens → AllBare g') → R tl v → Q v { s with heap := h', toks := tk', gens := g' }) →
    wpAny (model MP w) A (call (.ref f) vs) Q E s
theorem SpecT.toG {w : World} {f : Addr} {vs : List Value} {D U : Nat} {h₀ : Heap} {P : Addr} {V : Heap → Obj → Prop} {R : List (Addr × Obj) → Value → Prop} (x : SpecT w f vs D U h₀ P V R) : SpecG w f vs D U h₀ P V R :=
  fun A s Q E o a b c d e f' g k => x A s Q E o a b c d e f' g fun v tl h' tk' o' k1 k2 k3 k4 k5 => k v tl h' tk' s.gens o' k1 k2 k3 k4 id k5
section
variable {w : World} {K : Frag} {D U : Nat} {h₀ : Heap} {P : Addr} {V : Heap → Obj → Prop} {R : List (Addr × Obj) → Value → Prop} {p : Program} {loose : List Str} {mean : ExcName → Option Value} {mg mb : Str → Option Value}
  {name qual : Str} {params : Arguments} {body : List Stmt} {scope : Scope} {dV kV doc pm cdv ct oc : Value} {an od : Option Addr} {osl : Array (Option Value)} {f : Addr} {vals : List Value}
theorem use_specG {vs : List Value} {A : Around} {s : Shared} {Q E : Value → Shared → Prop} {L : Addr} {m : Str → Option Value} {rest : List (Addr × Obj)} {o : Obj}
    (C : SpecG w f vs D U (less s.heap [P]) P V R) (hA : A.handled = none) (hd : A.depth + D < recursionLimit) (hu : A.units + U < cLine) (F : Fr h₀ L s.heap m) (N : News h₀ L s.heap ((P, o) :: rest)) (off : ∀ q ∈ rest, q.1 ≠ P) (hv : V s.heap o)
    (k : ∀ v tl h' tk' g' o', Fr h₀ L h' m → News h₀ L h' ((P, o') :: (rest ++ tl)) → (∀ q ∈ rest, ∀ t ∈ tl, q.1 ≠ t.1) → (∀ t ∈ tl, t.1 ≠ P) → V h' o' → (AllBare s.gens → AllBare g') → R tl v → Q v { s with heap := h', toks := tk', gens := g' }) : wpAny (model MP w) A (call (.ref f) vs) Q E s := by
  have zP := N _ (.head _)
  refine C A s Q E o hA hd hu (fun b x e => of_less e) (less_none (by simp)) zP.1 hv fun v tl h' tk' g' o' k1 k2 k3 k4 k5 k6 => ?_
  have hLP : @Ne Nat L P := Ne.symm zP.2.1
  refine k v tl h' tk' g' o' ⟨F.ns.at' fun x e => k1 _ _ hLP e, fun b x e => k1 b x (fun q => by rw [q, zP.2.2] at e; cases e) (F.keep b x e), F.above⟩ (fun q hq => ?_) (fun q hq t ht e => ?_) (fun t ht => (k4 t ht).2.1) k3 k5 k6
  · rcases List.mem_cons.mp hq with rfl | hq
    · exact ⟨k2, zP.2⟩
    · rcases List.mem_append.mp hq with hq | hq
      · have z := N q (.tail _ hq)
        exact ⟨k1 _ _ (off q hq) z.1, z.2⟩
      · have z := k4 q hq
        refine ⟨z.1, fun e => ?_, ?_⟩
        · obtain ⟨oL, _, _, hoL, _⟩ := F.ns
          have := z.2.2
          rw [e, hoL] at this; cases this
        · cases e : h₀.get? q.1 with
          | none => rfl
          | some x => have := z.2.2; rw [F.keep _ _ e] at this; cases this
  · have := (k4 t ht).2.2
    rw [← e, (N q (.tail _ hq)).1] at this; cases this
end
section
variable {prog : Program} {w : World} {A : Around} {s : Shared} {env : Env} {h₀ : Heap} {L : Addr} {m : Str → Option Value}
/-- where a turn ends, generators having run -/
def GEnd (h₀ : Heap) (L : Addr) (s : Shared) (J : Nat → (Str → Option Value) → List (Addr × Obj) → Prop) (n : Nat) (s' : Shared) : Prop :=
  ∃ h' tk' g' m' news' n', s' = { s with heap := h', toks := tk', gens := g' } ∧ (AllBare s.gens → AllBare g') ∧ Fr h₀ L h' m' ∧ News h₀ L h' news' ∧ n' < n ∧ J n' m' news'
theorem GEnd.mk {J : Nat → (Str → Option Value) → List (Addr × Obj) → Prop} {n n' : Nat} {h' : Heap} {tk' : Nat} {g' : Array GenState} {m' : Str → Option Value} {news' : List (Addr × Obj)} (ab : AllBare s.gens → AllBare g')
    (F : Fr h₀ L h' m') (N : News h₀ L h' news') (hn : n' < n) (hJ : J n' m' news') : GEnd h₀ L s J n { s with heap := h', toks := tk', gens := g' } := ⟨h', tk', g', m', news', n', rfl, ab, F, N, hn, hJ⟩
def GPost (h₀ : Heap) (L : Addr) (s : Shared) (Q : Flow → Shared → Prop) (J : Nat → (Str → Option Value) → List (Addr × Obj) → Prop) (n : Nat) (f : Flow) (s' : Shared) : Prop :=
  match f with
  | .ret v => Q (.ret v) s'
  | .brk => Q .next s'
  | _ => GEnd h₀ L s J n s'
theorem my_whileG {test : Expr} {body : List Stmt} {pos : Pos} {news : List (Addr × Obj)} {Q : Flow → Shared → Prop} (J : Nat → (Str → Option Value) → List (Addr × Obj) → Prop) {n₀ : Nat}
    (F : Fr h₀ L s.heap m) (N : News h₀ L s.heap news) (hJ : J n₀ m news)
    (turn : ∀ n m₁ news₁ h₁ tk₁ g₁, J n m₁ news₁ → (AllBare s.gens → AllBare g₁) → Fr h₀ L h₁ m₁ → News h₀ L h₁ news₁ →
      wpAny (model prog w) A (isTrue test env (eval test env)) (fun b s₂ => if b = true then wpAny (model prog w) A (execs body env) (GPost h₀ L s Q J n) FF s₂ else Q .next s₂) FF { s with heap := h₁, toks := tk₁, gens := g₁ }) :
    wpAny (model prog w) A (exec (.While test body [] pos) env) Q FF s := by
  refine wpAny_While (codeAny_whileLoop (fun n s' => ∃ h₁ tk₁ g₁ m₁ news₁, s' = { s with heap := h₁, toks := tk₁, gens := g₁ } ∧ (AllBare s.gens → AllBare g₁) ∧ Fr h₀ L h₁ m₁ ∧ News h₀ L h₁ news₁ ∧ J n m₁ news₁) ?_ n₀ ⟨s.heap, s.toks, s.gens, m, news, rfl, id, F, N, hJ⟩)
  intro n s' hq2
  (try k_fold)
  obtain ⟨h₁, tk₁, g₁, m₁, news₁, rfl, ab, F₁, N₁, J₁⟩ := hq2
  refine wpAny_noRaise (wpAny_mono (turn n m₁ news₁ h₁ tk₁ g₁ J₁ ab F₁ N₁) (fun b s₂ h₂ => ?_) fun _ _ e => e)
  cases b with
  | false =>
    simp only [Bool.false_eq_true, if_false] at h₂ ⊢
    exact wpAny_execs_nil h₂
  | true =>
    simp only [if_true] at h₂ ⊢
    refine wpAny_noRaise (wpAny_mono h₂ (fun f s₃ h₃ => ?_) fun _ _ e => e)
    have step : GEnd h₀ L s J n s₃ → ∃ k, k < n ∧ ∃ h₁ tk₁ g₁ m₁ news₁, s₃ = { s with heap := h₁, toks := tk₁, gens := g₁ } ∧ (AllBare s.gens → AllBare g₁) ∧ Fr h₀ L h₁ m₁ ∧ News h₀ L h₁ news₁ ∧ J k m₁ news₁ := by
      intro hq3
      (try k_fold)
      obtain ⟨h', tk', g', m', news', n', rfl, ab', F', N', hn, hJ'⟩ := hq3
      exact ⟨n', hn, h', tk', g', m', news', rfl, ab', F', N', hJ'⟩
    cases f with
    | next => exact step h₃
    | cont => exact step h₃
    | brk => exact h₃
    | ret v => exact h₃
end
end Mine
end
section
open PySem PySem.W PyProof.Rows PySem.Calls
set_option Elab.async false
set_option maxRecDepth 100000
set_option maxHeartbeats 4000000
namespace Mine
/-- the code that a table names may stand in the ledger -/
def K_TabLV_ledger.Pκ (P : Addr) (L : Addr) (pos : Pos) (qual : Str) (g : Heap) (h : Heap) (m : Str → Option Value) (o : Obj) : Prop :=
  ∀ (x : TabLV P pos qual h o) (F : Fr g L h m), ∃ ps xs, o = tabObj ps ∧ TabL g L xs pos qual ps ∧ News g L h xs ∧ (∀ q ∈ xs, q.1 ≠ P) ∧ (∀ q ∈ xs, ∃ vs t, q.2.data = .fields vs ∧ vs[1]? = some (.str qual t))
namespace K_TabLV_ledger
theorem ne : Nonempty ((Addr) × (Addr) × (Pos) × (Str) × (Heap) × (Heap) × (Str → Option Value) × (Obj)) := ⟨(Classical.ofNonempty, Classical.ofNonempty, Classical.ofNonempty, Classical.ofNonempty, Classical.ofNonempty, Classical.ofNonempty, Classical.ofNonempty, Classical.ofNonempty)⟩
noncomputable def κ : (Addr) × (Addr) × (Pos) × (Str) × (Heap) × (Heap) × (Str → Option Value) × (Obj) := pick ne fun c => ¬ @Pκ (c.1) (c.2.1) (c.2.2.1) (c.2.2.2.1) (c.2.2.2.2.1) (c.2.2.2.2.2.1) (c.2.2.2.2.2.2.1) (c.2.2.2.2.2.2.2)
noncomputable def P : Addr := κ.1
noncomputable def L : Addr := κ.2.1
noncomputable def pos : Pos := κ.2.2.1
noncomputable def qual : Str := κ.2.2.2.1
noncomputable def g : Heap := κ.2.2.2.2.1
noncomputable def h : Heap := κ.2.2.2.2.2.1
noncomputable def m : Str → Option Value := κ.2.2.2.2.2.2.1
noncomputable def o : Obj := κ.2.2.2.2.2.2.2
theorem core : @Pκ P L pos qual g h m o := by
  intro x F
  obtain ⟨ps, e, ht, x⟩ := x
  rcases x with x | ⟨c', e1, hne, c₂, oc, vs, t, e2, hoc, hd, hv⟩
  · exact ⟨ps, [], e, ⟨ht, .inl x⟩, News.nil, fun _ h => (by cases h), fun _ h => (by cases h)⟩
  cases e2
  have hcL : @Ne Nat c' L := fun q => by
    obtain ⟨oL, es, ep, hoL, hdL, hrL⟩ := F.ns
    rw [q] at hoc
    rw [hoL] at hoc
    cases hoc
    rw [hdL] at hd
    cases hd
  cases hg : g.get? c' with
  | none =>
    refine ⟨ps, [(c', oc)], e, ⟨ht, .inr ⟨c', e1, fun h2 m2 F2 N2 => ⟨c', oc, vs, t, rfl, (N2 _ (.head _)).1, hd, hv⟩⟩⟩, fun q hq => ?_, fun q hq => ?_, fun q hq => ?_⟩
    · rw [List.mem_singleton.mp hq]; exact ⟨hoc, hcL, hg⟩
    · rw [List.mem_singleton.mp hq]; exact hne
    · rw [List.mem_singleton.mp hq]; exact ⟨_, _, hd, hv⟩
  | some y =>
    have hy := F.keep _ _ hg
    rw [hoc] at hy
    cases hy
    exact ⟨ps, [], e, ⟨ht, .inr ⟨c', e1, fun h2 m2 F2 _ => ⟨c', oc, vs, t, rfl, F2.keep _ _ hg, hd, hv⟩⟩⟩, News.nil, fun _ h => (by cases h), fun _ h => (by cases h)⟩
end K_TabLV_ledger
theorem TabLV.ledger {P L : Addr} {pos : Pos} {qual : Str} {g h : Heap} {m : Str → Option Value} {o : Obj} (x : TabLV P pos qual h o) (F : Fr g L h m) :
    ∃ ps xs, o = tabObj ps ∧ TabL g L xs pos qual ps ∧ News g L h xs ∧ (∀ q ∈ xs, q.1 ≠ P) ∧ (∀ q ∈ xs, ∃ vs t, q.2.data = .fields vs ∧ vs[1]? = some (.str qual t)) :=
  pickAll K_TabLV_ledger.ne (P := fun c => @K_TabLV_ledger.Pκ (c.1) (c.2.1) (c.2.2.1) (c.2.2.2.1) (c.2.2.2.2.1) (c.2.2.2.2.2.1) (c.2.2.2.2.2.2.1) (c.2.2.2.2.2.2.2)) K_TabLV_ledger.core (P, L, pos, qual, g, h, m, o) x F
end Mine
end
section
open PySem PySem.W PyProof.Rows PySem.Calls PySem.Spec
set_option Elab.async false
set_option maxRecDepth 100000
set_option maxHeartbeats 4000000
namespace Mine
/-- the end of a law whose calls run generators and fill tables -/
theorem my_post {M : Model} {A : Around} {cd : Code} {s s₁ : Shared} {cw : ClaimW} {cl : Str → Option Addr} {mean : ExcName → Option Value} {args : List WData} {tabs : List (Addr × Addr)} (hT : TabsAt tabs s₁.heap) (hr : ∀ a x, cw.raises a x = false)
    (h : codeAny M A cd (fun r s' => GoodW cw cl mean args { s₁ with heap := ghostOf s₁.heap tabs } r { s' with gens := #[] } ∧ AllBare s'.gens ∧ GrownAll tabs s'.heap) s) : codeAny M A cd (GoodWG cw cl mean args s₁) s :=
  codeAny_mono h fun r s' ⟨⟨hc, hk, hos, _⟩, hg, hgr⟩ => by
    have keep : ∀ b o, b ∉ tabs.map (·.2) → s₁.heap.get? b = some o → s'.heap.get? b = some o := fun b o hb e => hk b o (ghost_ne e hb)
    have grown : ∀ b o, b ∈ tabs.map (·.2) → s₁.heap.get? b = some o → isCodeTable s₁.heap b ∧ o = tabObj #[] ∧ ∃ ps, s'.heap.get? b = some (tabObj ps) := fun b o hb e => by
      obtain ⟨q, hq, rfl⟩ := List.mem_map.mp hb
      have e2 := (hT q hq).2
      rw [e] at e2
      exact ⟨((hT q hq).1.tab (hT q hq).2).isCodeTable, Option.some.inj e2, hgr.get q hq⟩
    refine ⟨?_, ⟨fun b o e => ?_, fun b o e => ?_⟩, hos, hg⟩
    · rcases hc with ⟨v, d, as, r1, r2, r3, r4, r5⟩ | ⟨e, ob, x, _, _, _, r4, _⟩
      · refine .inl ⟨v, d, as, r1, r2, r3, r4, fun q => ⟨(r5 q).1, fun a ha => ?_⟩⟩
        cases q1 : s₁.heap.get? a with
        | none => rfl
        | some o =>
          by_cases hb : a ∈ tabs.map (·.2)
          · obtain ⟨_, _, ps, hP⟩ := grown a o hb q1
            exact absurd ha (readsW_apart hP rfl r3)
          · have e3 := (r5 q).2 a ha
            rw [show (ghostOf s₁.heap tabs).get? a = some o from ghost_ne q1 hb] at e3
            cases e3
      · rw [hr] at r4; cases r4
    · by_cases hb : b ∈ tabs.map (·.2)
      · obtain ⟨ht, rfl, ps, hP⟩ := grown b o hb e
        exact .inr (.inl ⟨ht, rfl, #[], ps, rfl, by rw [Array.empty_append]; exact hP⟩)
      · exact .inl (keep b o hb e)
    · by_cases hb : b ∈ tabs.map (·.2)
      · obtain ⟨_, _, ps, hP⟩ := grown b o hb e
        exact ⟨_, hP⟩
      · exact ⟨o, keep b o hb e⟩
end Mine
end
section
open PySem PySem.W PyProof.Rows PySem.Calls PySem.Builtin.Str
set_option Elab.async false
set_option maxRecDepth 100000
set_option maxHeartbeats 4000000
namespace Mine
def escChk (es : Array DictEntry) (c : Nat) : Bool :=
  match findBy Value.isInt es (c : Int) with
  | some (.str x _) => decide (9 ≤ c ∧ c ≤ 13) && decide (x = txt [92, c])
  | none => !decide (9 ≤ c ∧ c ≤ 13)
  | _ => false
def keyChk (es : Array DictEntry) : Bool := es.toList.all fun e => match e.key with
  | .int k _ => e.hash == hashInt k
  | _ => false
theorem tab45 (w : World) : ∃ es ep, (hd.heap_39 w.params).lookup 45 = some ⟨.type "dict", none, .dict es ep, #[]⟩ ∧ keyChk es = true ∧ (List.range 256).all (fun c => !(decide (c < 32 ∨ 128 ≤ c)) || escChk es c) = true := by
  w_top off
  refine fillG ?_
  k_fill
  intro _ _
  refine ⟨_, _, by k_is, ?_, ?_⟩
  · decide +kernel
  · decide +kernel
end Mine
end
section
open PySem PySem.W PyProof.Rows PySem.Calls PySem.Builtin.Str
set_option Elab.async false
set_option maxRecDepth 100000
set_option maxHeartbeats 4000000
namespace Mine
section
variable {prog : Program} {w : World} {A : Around} {E : Value → Shared → Prop} {s : Shared} {f : Int → Option Value} {c d : Nat} {x : Str} {t : Tok}
theorem tr_hit {Q : Builtin.Str.Mapped → Shared → Prop} (hm : s.heap.MapOf (intKind prog w) d f) (hf : f (c : Int) = some (.str x t)) (h : ∀ tk, Q (.text x) { s with toks := tk }) :
    wpAny (model prog w) A (Builtin.Str.tableLookup (.ref d) c) Q E s := by
  unfold Builtin.Str.tableLookup
  refine wpAny_bind (wpAny_attempt (wpAny_bind (wpAny_mkInt (wpAny_getItem_of (knd := intKind prog w) (k := (c : Int)) (by simp [intKind, Value.isInt]) hm hf ?_))))
  wp_walk
  exact h _
theorem tr_miss {Q : Builtin.Str.Mapped → Shared → Prop} (hd : (d == sysModules) = false) (hh : A.handled = none) (hm : s.heap.MapOf (intKind prog w) d f) (hf : f (c : Int) = none) (h : ∀ h' tk, Kp s.heap h' → Q .keep { s with heap := h', toks := tk }) :
    wpAny (model prog w) A (Builtin.Str.tableLookup (.ref d) c) Q E s := by
  unfold Builtin.Str.tableLookup
  refine wpAny_bind (wpAny_attempt (wpAny_bind (wpAny_mkInt (wpAny_getItem_missing_of (knd := intKind prog w) (k := (c : Int)) (by simp [intKind, Value.isInt]) hd hh hm hf fun h' e he => ?_))))
  obtain ⟨o, t, ho, hc, _⟩ := he.there
  refine wpAny_bind (wpAny_isInstance (T := "KeyError") (b := true) ⟨o, ho, hc⟩ (by rw [isSubtype_type]; kernel_rfl) ?_)
  simp only [if_true]
  exact wpAny_bind (wpAny_rule (wpAny_pure (h _ _ he.keeps)))
theorem tr_hit' {Q : Builtin.Str.Mapped → Shared → Prop} (hm : s.heap.MapOf (intKind prog w) d f) (h : ∀ tk, Q (.text x) { s with toks := tk }) (hf : f (c : Int) = some (.str x t)) :
    wpAny (model prog w) A (Builtin.Str.tableLookup (.ref d) c) Q E s := tr_hit hm hf h
theorem tr_miss' {Q : Builtin.Str.Mapped → Shared → Prop} (hd : (d == sysModules) = false) (hh : A.in1.handled = none) (hm : s.heap.MapOf (intKind prog w) d f) (h : ∀ h' tk, Kp s.heap h' → Q .keep { s with heap := h', toks := tk }) (hf : f (c : Int) = none) :
    wpAny (model prog w) A.in1 (Builtin.Str.tableLookup (.ref d) c) Q E s := tr_miss hd hh hm hf h
def K_translate_esc.P (Q : Value → Shared → Prop) (tt : Tok) : Prop :=
  ∀ (hd : (d == sysModules) = false) (hh : A.handled = none) (hc : Safe c) (hm : s.heap.MapOf (intKind prog w) d f) (hf : ∀ c : Nat, Safe c → if 9 ≤ c ∧ c ≤ 13 then ∃ t, f (c : Int) = some (.str (txt [92, c]) t) else f (c : Int) = none) (h : ∀ h' tk t, Kp s.heap h' → Q (.str (txt (esc c)) t) { s with heap := h', toks := tk }), wpAny (model prog w) A (call (.builtin "str.translate") [.str ⟨#[c]⟩ tt, .ref d]) Q E s
end
namespace K_translate_esc
theorem ne : Nonempty ((Program) × (World) × (Around) × (Value → Shared → Prop) × (Shared) × (Int → Option Value) × (Nat) × (Nat) × (Value → Shared → Prop) × (Tok)) := ⟨(Classical.ofNonempty, w0, ⟨none, 0, none, none, 0⟩, Classical.ofNonempty, {}, Classical.ofNonempty, Classical.ofNonempty, Classical.ofNonempty, Classical.ofNonempty, Classical.ofNonempty)⟩
noncomputable def κ : (Program) × (World) × (Around) × (Value → Shared → Prop) × (Shared) × (Int → Option Value) × (Nat) × (Nat) × (Value → Shared → Prop) × (Tok) := pick ne fun c => ¬ @P (c.1) (c.2.1) (c.2.2.1) (c.2.2.2.1) (c.2.2.2.2.1) (c.2.2.2.2.2.1) (c.2.2.2.2.2.2.1) (c.2.2.2.2.2.2.2.1) (c.2.2.2.2.2.2.2.2.1) (c.2.2.2.2.2.2.2.2.2)
noncomputable def prog : Program := κ.1
noncomputable def w : World := κ.2.1
noncomputable def A : Around := κ.2.2.1
noncomputable def E : Value → Shared → Prop := κ.2.2.2.1
noncomputable def s : Shared := κ.2.2.2.2.1
noncomputable def f : Int → Option Value := κ.2.2.2.2.2.1
noncomputable def c : Nat := κ.2.2.2.2.2.2.1
noncomputable def d : Nat := κ.2.2.2.2.2.2.2.1
noncomputable def Q : Value → Shared → Prop := κ.2.2.2.2.2.2.2.2.1
noncomputable def tt : Tok := κ.2.2.2.2.2.2.2.2.2
theorem core : @P prog w A E s f c d Q tt := by
  intro hd hh hc hm hf h
  refine wpAny_call_entry PySem.F.slot_str_translate (typeIs_str _ _ _) PySem.F.entry_str_translate ?_ (PySem.F.args_str_translate_2 _ _)
  unfold Builtin.«str.translate»
  have hfc := hf c hc
  have hall : (#[c] : Array Nat).all (fun x => decide (x < 128)) = decide (c < 128) := by simp
  by_cases e : 9 ≤ c ∧ c ≤ 13
  · rw [if_pos e] at hfc
    obtain ⟨t, hfc⟩ := hfc
    have hlt : decide (c < 128) = true := by simp; lia
    have hget : ∀ h, ({ cps := #[c] } : Str).cps[({ cps := #[c] } : Str).cps.size - 1 - 0]'h = c := fun _ => rfl
    wp_walk using tr_hit' (x := txt [92, c]) (t := t) hm
    · intro tk
      wp_walk using tr_hit' (s := { s with toks := tk }) (x := txt [92, c]) (t := t) hm
      · intro tk2
        wp_walk
        refine ⟨_, rfl, ?_⟩
        have q := h s.heap (tk2 + 1) tk2 Kp.refl
        rw [show txt (esc c) = txt [92, c] by unfold esc; rw [if_pos e]] at q
        exact q
      · exact hfc
    · exact hfc
  · rw [if_neg e] at hfc
    wp_walk
    have hall' : ({ cps := #[c] } : Str).cps.all (fun x => decide (x < 128)) = decide (c < 128) := hall
    rw [hall']
    by_cases e2 : c < 128
    · rw [decide_eq_true e2]
      simp only [if_true]
      wp_walk using tr_miss' hd hh hm
      · intro h' tk k
        wp_walk
        refine ⟨_, rfl, ?_⟩
        have q := h h' (tk + 1) tk k
        rw [show txt (esc c) = (⟨#[c]⟩ : Str) by unfold esc; rw [if_neg e]; rfl] at q
        exact q
      · exact hfc
    · rw [decide_eq_false e2]
      simp only [Bool.false_eq_true, if_false]
      wp_walk using tr_miss' hd hh hm
      · intro h' tk k
        wp_walk
        refine ⟨_, rfl, ?_⟩
        have q := h h' (tk + 1) tk k
        rw [show txt (esc c) = (⟨#[c]⟩ : Str) by unfold esc; rw [if_neg e]; rfl] at q
        exact q
      · exact hfc
end K_translate_esc
section
variable {prog : Program} {w : World} {A : Around} {E : Value → Shared → Prop} {s : Shared} {f : Int → Option Value} {c d : Nat} {x : Str} {t : Tok}
theorem translate_esc {Q : Value → Shared → Prop} {tt : Tok} (hd : (d == sysModules) = false) (hh : A.handled = none) (hc : Safe c) (hm : s.heap.MapOf (intKind prog w) d f) (hf : ∀ c : Nat, Safe c → if 9 ≤ c ∧ c ≤ 13 then ∃ t, f (c : Int) = some (.str (txt [92, c]) t) else f (c : Int) = none)
    (h : ∀ h' tk t, Kp s.heap h' → Q (.str (txt (esc c)) t) { s with heap := h', toks := tk }) :
    wpAny (model prog w) A (call (.builtin "str.translate") [.str ⟨#[c]⟩ tt, .ref d]) Q E s :=
  pickAll K_translate_esc.ne (P := fun c => @K_translate_esc.P (c.1) (c.2.1) (c.2.2.1) (c.2.2.2.1) (c.2.2.2.2.1) (c.2.2.2.2.2.1) (c.2.2.2.2.2.2.1) (c.2.2.2.2.2.2.2.1) (c.2.2.2.2.2.2.2.2.1) (c.2.2.2.2.2.2.2.2.2)) K_translate_esc.core (prog, w, A, E, s, f, c, d, Q, tt) hd hh hc hm hf h
end
end Mine
end
section
open PySem PySem.W PyProof.Rows PySem.Calls
set_option Elab.async false
set_option maxRecDepth 100000
set_option maxHeartbeats 4000000
namespace Mine
theorem map45 (w : World) {h : Heap} (X : (hd.heap_39 w.params).In h) : ∃ f : Int → Option Value, (∀ h', Kp h h' → h'.MapOf (intKind MP w) 45 f) ∧ ∀ c : Nat, Safe c → if 9 ≤ c ∧ c ≤ 13 then ∃ t, f (c : Int) = some (.str (txt [92, c]) t) else f (c : Int) = none := by
  obtain ⟨es, ep, hl, hk, hc⟩ := tab45 w
  refine ⟨fun k => findBy Value.isInt es k, fun h' k => ⟨_, es, ep, k _ _ (X _ _ hl), ⟨rfl, rfl, rfl⟩, rfl, fun e he => ?_, fun _ => rfl⟩, fun c hs => ?_⟩
  · have := (List.all_eq_true.mp hk) e (by simpa using he)
    cases q : e.key with
    | int k t => rw [q] at this; exact ⟨k, by simp [intKind, Value.isInt], eq_of_beq this⟩
    | _ => rw [q] at this; cases this
  · have hlt : c < 256 := by unfold Safe at hs; lia
    have := (List.all_eq_true.mp hc) c (List.mem_range.mpr hlt)
    rw [show decide (c < 32 ∨ 128 ≤ c) = true by simp; unfold Safe at hs; lia] at this
    simp only [Bool.not_true, Bool.false_or] at this
    unfold escChk at this
    show if 9 ≤ c ∧ c ≤ 13 then ∃ t, findBy Value.isInt es (c : Int) = some (.str (txt [92, c]) t) else findBy Value.isInt es (c : Int) = none
    cases q : findBy Value.isInt es (c : Int) with
    | none =>
      rw [q] at this
      replace this : (!decide (9 ≤ c ∧ c ≤ 13)) = true := this
      simp only [Bool.not_eq_true', decide_eq_false_iff_not] at this
      rw [if_neg this]
    | some v =>
      rw [q] at this
      cases v with
      | str x t =>
        replace this : (decide (9 ≤ c ∧ c ≤ 13) && decide (x = txt [92, c])) = true := this
        simp only [Bool.and_eq_true, decide_eq_true_eq] at this
        rw [if_pos this.1]
        exact ⟨t, by rw [this.2]⟩
      | _ => cases this

section
namespace K_S_escape
def P (w : World) (h : Heap) (c : Nat) (t : Tok) (dp : Nat) (un : Nat) (fr : Option (List Env)) (gd : Option (List Code)) (s : Shared) (Q : Value → Shared → Prop) (E : Value → Shared → Prop) : Prop :=
  ∀ (hS : St w h) (hc : Safe c), SpecAt w 55 [.str ⟨#[c]⟩ t] 6 600 h (fun tl v => tl = [] ∧ ∃ t, v = .str (txt (esc c)) t) dp un fr gd s Q E
theorem ne : Nonempty ((World) × (Heap) × (Nat) × (Tok) × (Nat) × (Nat) × (Option (List Env)) × (Option (List Code)) × (Shared) × (Value → Shared → Prop) × (Value → Shared → Prop)) := ⟨(w0, Classical.ofNonempty, Classical.ofNonempty, Classical.ofNonempty, Classical.ofNonempty, Classical.ofNonempty, Classical.ofNonempty, Classical.ofNonempty, {}, Classical.ofNonempty, Classical.ofNonempty)⟩
noncomputable def κ : (World) × (Heap) × (Nat) × (Tok) × (Nat) × (Nat) × (Option (List Env)) × (Option (List Code)) × (Shared) × (Value → Shared → Prop) × (Value → Shared → Prop) := pick ne fun c => ¬ P (c.1) (c.2.1) (c.2.2.1) (c.2.2.2.1) (c.2.2.2.2.1) (c.2.2.2.2.2.1) (c.2.2.2.2.2.2.1) (c.2.2.2.2.2.2.2.1) (c.2.2.2.2.2.2.2.2.1) (c.2.2.2.2.2.2.2.2.2.1) (c.2.2.2.2.2.2.2.2.2.2)
noncomputable def w : World := κ.1
noncomputable def h : Heap := κ.2.1
noncomputable def c : Nat := κ.2.2.1
noncomputable def t : Tok := κ.2.2.2.1
noncomputable def dp : Nat := κ.2.2.2.2.1
noncomputable def un : Nat := κ.2.2.2.2.2.1
noncomputable def fr : Option (List Env) := κ.2.2.2.2.2.2.1
noncomputable def gd : Option (List Code) := κ.2.2.2.2.2.2.2.1
noncomputable def s : Shared := κ.2.2.2.2.2.2.2.2.1
noncomputable def Q : Value → Shared → Prop := κ.2.2.2.2.2.2.2.2.2.1
noncomputable def E : Value → Shared → Prop := κ.2.2.2.2.2.2.2.2.2.2
noncomputable def L : Addr := Heap.objs h |>.size
noncomputable def h₁ : Heap := (HT (hd.heap_39 w.params) 55 w h L dp un fr gd s Q [(Str.ofString "pattern", .str ⟨#[c]⟩ t)]).1
noncomputable def tk : Nat := (HT (hd.heap_39 w.params) 55 w h L dp un fr gd s Q [(Str.ofString "pattern", .str ⟨#[c]⟩ t)]).2
theorem core : P w h c t dp un fr gd s Q E := by
  intro hS hc hdp hun hh hQ
  w_top off
  refine fillG ?_
  k_fill
  intro _ _
  obtain ⟨X, T⟩ := St.top hS
  refine' enterE (K := hd.heap_39 w.params) hdp hh L rfl X T [(Str.ofString "pattern", .str ⟨#[c]⟩ t)] ?k3 ?k4 (by lia) ?k6 ?k7 ?k8 ?k9 ?k10 ?k11 h₁ rfl tk rfl ?_
  case k3 => k_is
  case k4 => k_is
  case k6 => exact rfl
  case k7 => decide
  case k8 => exact locs rfl
  case k9 => exact rfl
  case k10 => exact rfl
  case k11 => exact rfl
  intro F N
  have hL : L = h.objs.size := rfl
  try dsimp only
  obtain ⟨f, hf, hfc⟩ := map45 w X
  k_steps
  refine GM.of _ (typeIs_str _ _ _) PySem.F.slot_str_translate PySem.F.type_str_translate GM.noRef ?_
  k_steps
  refine translate_esc (by decide) (by rfl) hc (hf _ (kp_of (by assumption))) hfc ?_
  intro h' tk' t' kp
  have F' := fr_after (by assumption) kp
  k_steps
  exact hQ _ [] _ _ (kp_of F') Fsh.nil ⟨rfl, _, rfl⟩
end K_S_escape
theorem S_escape (w : World) (h : Heap) (c : Nat) (t : Tok) (hS : St w h) (hc : Safe c) : Spec w 55 [.str ⟨#[c]⟩ t] 6 600 h (fun tl v => tl = [] ∧ ∃ t, v = .str (txt (esc c)) t) :=
  spec_of fun dp un fr gd s Q E => pickAll K_S_escape.ne (P := fun c => K_S_escape.P (c.1) (c.2.1) (c.2.2.1) (c.2.2.2.1) (c.2.2.2.2.1) (c.2.2.2.2.2.1) (c.2.2.2.2.2.2.1) (c.2.2.2.2.2.2.2.1) (c.2.2.2.2.2.2.2.2.1) (c.2.2.2.2.2.2.2.2.2.1) (c.2.2.2.2.2.2.2.2.2.2)) K_S_escape.core (w, h, c, t, dp, un, fr, gd, s, Q, E) hS hc
end
end Mine
end
section
open PySem PySem.W PyProof.Rows PySem.Calls
set_option Elab.async false
set_option maxRecDepth 100000
set_option maxHeartbeats 1000000
namespace Mine
open PyProof.Rows.LCg (NsObj ns_obj lst lst_snoc SrcAt)
section
local macro_rules | `(tactic| walk_at "eval ListComp") => `(tactic| wtm_at "mS")
local macro_rules | `(tactic| walk_at "compareOp NotEq ref ref") => `(tactic| wtm_at "mS")
namespace K_S_meets
def P (w : World) (h : Heap) (turned : Bool) (c : Nat) (pc : Addr) (l : Addr) (t : Tok) (vs : List Value) (ends : List (Nat × Nat)) (dp : Nat) (un : Nat) (fr : Option (List Env)) (gd : Option (List Code)) (s : Shared) (Q : Value → Shared → Prop) (E : Value → Shared → Prop) : Prop :=
  ∀ (hS : St w h) (hp : IsTup h pc #[.bool turned, .ref l]) (hl : h.IsList l vs.toArray) (he : All2 (EndAt h) vs ends) (hlen : vs.length ≤ 1000), SpecAt w 142 [.ref pc, .str ⟨#[c]⟩ t] 4 300 h (fun tl v => tl = [] ∧ v = .bool (inEnds ends c != turned)) dp un fr gd s Q E
theorem ne : Nonempty ((World) × (Heap) × (Bool) × (Nat) × (Addr) × (Addr) × (Tok) × (List Value) × (List (Nat × Nat)) × (Nat) × (Nat) × (Option (List Env)) × (Option (List Code)) × (Shared) × (Value → Shared → Prop) × (Value → Shared → Prop)) := ⟨(w0, Classical.ofNonempty, Classical.ofNonempty, Classical.ofNonempty, Classical.ofNonempty, Classical.ofNonempty, Classical.ofNonempty, Classical.ofNonempty, Classical.ofNonempty, Classical.ofNonempty, Classical.ofNonempty, Classical.ofNonempty, Classical.ofNonempty, {}, Classical.ofNonempty, Classical.ofNonempty)⟩
noncomputable def κ : (World) × (Heap) × (Bool) × (Nat) × (Addr) × (Addr) × (Tok) × (List Value) × (List (Nat × Nat)) × (Nat) × (Nat) × (Option (List Env)) × (Option (List Code)) × (Shared) × (Value → Shared → Prop) × (Value → Shared → Prop) := pick ne fun c => ¬ P (c.1) (c.2.1) (c.2.2.1) (c.2.2.2.1) (c.2.2.2.2.1) (c.2.2.2.2.2.1) (c.2.2.2.2.2.2.1) (c.2.2.2.2.2.2.2.1) (c.2.2.2.2.2.2.2.2.1) (c.2.2.2.2.2.2.2.2.2.1) (c.2.2.2.2.2.2.2.2.2.2.1) (c.2.2.2.2.2.2.2.2.2.2.2.1) (c.2.2.2.2.2.2.2.2.2.2.2.2.1) (c.2.2.2.2.2.2.2.2.2.2.2.2.2.1) (c.2.2.2.2.2.2.2.2.2.2.2.2.2.2.1) (c.2.2.2.2.2.2.2.2.2.2.2.2.2.2.2)
noncomputable def w : World := κ.1
noncomputable def h : Heap := κ.2.1
noncomputable def turned : Bool := κ.2.2.1
noncomputable def c : Nat := κ.2.2.2.1
noncomputable def pc : Addr := κ.2.2.2.2.1
noncomputable def l : Addr := κ.2.2.2.2.2.1
noncomputable def t : Tok := κ.2.2.2.2.2.2.1
noncomputable def vs : List Value := κ.2.2.2.2.2.2.2.1
noncomputable def ends : List (Nat × Nat) := κ.2.2.2.2.2.2.2.2.1
noncomputable def dp : Nat := κ.2.2.2.2.2.2.2.2.2.1
noncomputable def un : Nat := κ.2.2.2.2.2.2.2.2.2.2.1
noncomputable def fr : Option (List Env) := κ.2.2.2.2.2.2.2.2.2.2.2.1
noncomputable def gd : Option (List Code) := κ.2.2.2.2.2.2.2.2.2.2.2.2.1
noncomputable def s : Shared := κ.2.2.2.2.2.2.2.2.2.2.2.2.2.1
noncomputable def Q : Value → Shared → Prop := κ.2.2.2.2.2.2.2.2.2.2.2.2.2.2.1
noncomputable def E : Value → Shared → Prop := κ.2.2.2.2.2.2.2.2.2.2.2.2.2.2.2
noncomputable def L : Addr := Heap.objs h |>.size
noncomputable def h₁ : Heap := (HTC (hd.heap_39 w.params) 142 w h L dp un fr gd s Q [(Str.ofString "piece", .ref pc), (Str.ofString "sign", .str ⟨#[c]⟩ t)]).1
noncomputable def tk : Nat := (HTC (hd.heap_39 w.params) 142 w h L dp un fr gd s Q [(Str.ofString "piece", .ref pc), (Str.ofString "sign", .str ⟨#[c]⟩ t)]).2
theorem core : P w h turned c pc l t vs ends dp un fr gd s Q E := by
  intro hS hp hl he hlen hdp hun hh hQ
  w_top off
  refine fillG ?_
  k_fill
  intro _ _
  obtain ⟨X, T⟩ := St.top hS
  refine' enterEC (K := hd.heap_39 w.params) hdp hh L rfl X T [(Str.ofString "piece", .ref pc), (Str.ofString "sign", .str ⟨#[c]⟩ t)] ?k3 ?k4 (by lia) ?k6 ?k7 ?k8 ?k9 ?k10 ?k11 h₁ rfl tk rfl ?_
  case k3 => k_is
  case k4 => k_is
  case k6 => exact rfl
  case k7 => exact rfl
  case k8 => decide
  case k9 => exact rfl
  case k10 => exact rfl
  case k11 => exact rfl
  intro cells F N hC
  have hL : L = h.objs.size := rfl
  replace hC : CellsAre _ [(Str.ofString "sign", L + 1)] cells := hC
  obtain ⟨o0, rfl, d0⟩ := CellsAre.one hC
  try dsimp only
  k_steps
  repeat' ((first | ((with_reducible refine Stop.cmp ?_); refine ne_nil (by is_list) (by is_list) (by dsimp only [AA]; lia) ?_)); (try k_steps))
  unfold Stop
  (with_reducible rename Fr _ _ _ _ => Fx)
  refine my_comp_list Fx (by rfl) (by with_unfolding_all rfl) (by decide) (by rfl) (by decide) (by intro _; rfl) (fun _ _ _ _ _ _ hit q => go_tuple hit q) ?_
  walk1
  refine ⟨l, vs, _, fun i ys news => news = [(L + 1, o0)] ∧ ys.length = ((ends.take i).filter fun e => decide (e.1 ≤ c) && decide (c ≤ e.2)).length, rfl, ⟨by assumption, by assumption, Nat.le_trans hlen (by decide), ⟨rfl, by simp⟩, ?_, ?_⟩, ?_⟩
  · rintro i ys news ⟨rfl, hy⟩
    refine ⟨?_, .inl hl⟩
    rw [hy]
    exact Nat.le_trans (List.length_filter_le _ _) (by rw [List.length_take]; exact Nat.min_le_left _ _)
  · rintro i v ys news C oC D I oI h3 tk3 hv ⟨rfl, hy⟩ cs hoff
    obtain ⟨e, he1, p1, t1, t2, rfl, hp1⟩ := he.get hv
    have hp2 : IsTup h3 p1 #[.str ⟨#[e.1]⟩ t1, .str ⟨#[e.2]⟩ t2] := istup_keeps hp1 cs.F.keep
    refine comp_pair rfl rfl rfl rfl (by decide) cs hp2 ?_
    intro h4 tk4 oC4 mC cs4 ho hx hy
    obtain ⟨F4, N4, off4, cd4, _⟩ := cs4
    clear cs hp2
    k_steps
    repeat' ((first | ((with_reducible refine Stop.cmp ?_); refine ne_nil (by is_list) (by is_list) (by dsimp only [AA]; lia) ?_)); (try k_steps))
    · refine CEndI.mk F4 N4 off4 cd4 ho hoff ⟨rfl, ?_⟩
      have q := str1_lt.mp (by assumption)
      rw [filter_take_succ he1, if_neg (by simp; lia)]; assumption
    · refine CEndI.mk F4 N4 off4 cd4 ho hoff ⟨rfl, ?_⟩
      have q := str1_lt.mp (by assumption)
      rw [filter_take_succ he1, if_neg (by simp; lia)]; assumption
    · refine CEndI.mk F4 N4 off4 cd4 ho hoff ⟨rfl, ?_⟩
      have q1 : ¬ c < e.1 := fun z => absurd (str1_lt.mpr z) (by assumption)
      have q2 : ¬ e.2 < c := fun z => absurd (str1_lt.mpr z) (by assumption)
      rw [filter_take_succ he1, List.length_append, if_pos (by simp; lia)]
      exact congrArg (· + 1) (by assumption)
  · rintro D ys news h3 tk3 ⟨rfl, hy⟩ F3 N3 off3
    clear Fx
    rw [List.take_of_length_le (Nat.le_of_eq he.1.symm)] at hy
    k_steps
    repeat' ((first | ((with_reducible refine Stop.cmp ?_); refine ne_nil (by is_list) (by is_list) (by dsimp only [AA]; lia) ?_)); (try k_steps))
    exact hQ _ [] _ _ (kp_of (by assumption)) Fsh.nil ⟨rfl, by rw [inEnds_of hy]⟩
end K_S_meets
theorem S_meets (w : World) (h : Heap) (turned : Bool) (c : Nat) (pc l : Addr) (t : Tok) (vs : List Value) (ends : List (Nat × Nat)) (hS : St w h) (hp : IsTup h pc #[.bool turned, .ref l]) (hl : h.IsList l vs.toArray) (he : All2 (EndAt h) vs ends) (hlen : vs.length ≤ 1000) : Spec w 142 [.ref pc, .str ⟨#[c]⟩ t] 4 300 h (fun tl v => tl = [] ∧ v = .bool (inEnds ends c != turned)) :=
  spec_of fun dp un fr gd s Q E => pickAll K_S_meets.ne (P := fun c => K_S_meets.P (c.1) (c.2.1) (c.2.2.1) (c.2.2.2.1) (c.2.2.2.2.1) (c.2.2.2.2.2.1) (c.2.2.2.2.2.2.1) (c.2.2.2.2.2.2.2.1) (c.2.2.2.2.2.2.2.2.1) (c.2.2.2.2.2.2.2.2.2.1) (c.2.2.2.2.2.2.2.2.2.2.1) (c.2.2.2.2.2.2.2.2.2.2.2.1) (c.2.2.2.2.2.2.2.2.2.2.2.2.1) (c.2.2.2.2.2.2.2.2.2.2.2.2.2.1) (c.2.2.2.2.2.2.2.2.2.2.2.2.2.2.1) (c.2.2.2.2.2.2.2.2.2.2.2.2.2.2.2)) K_S_meets.core (w, h, turned, c, pc, l, t, vs, ends, dp, un, fr, gd, s, Q, E) hS hp hl he hlen
end
end Mine
end
section
open PySem PySem.W PyProof.Rows PySem.Calls
set_option Elab.async false
set_option maxRecDepth 100000
set_option maxHeartbeats 1000000
namespace Mine
theorem fits1_b {one c size : Nat} : (((one : Int) == (c : Int).fmod (size : Int)) != (Str.ofString "" == Str.ofString "[!")) = decide (one = c % size) := by
  rw [natmod, show (Str.ofString "" == Str.ofString "[!") = false from by decide, Bool.eq_iff_iff]
  simp only [Bool.bne_false, beq_iff_eq, decide_eq_true_eq]
  lia
theorem fits1_a {n : List Int} {one c size : Nat} (hp : n.Perm (List.map (fun k => k.fmod (size : Int)) [(c : Int)])) (h1 : n.getD (Int.toNat 0) 0 ≤ (one : Int)) (h2 : (one : Int) ≤ n.getD (-1 + (n.length : Int)).toNat 0) :
    (decide ((one : Int) ≤ n.getD (-1 + (n.length : Int)).toNat 0) != (Str.ofString "" == Str.ofString "[!")) = decide (one = c % size) := by
  rw [show (Str.ofString "" == Str.ofString "[!") = false from by decide, decide_eq_true h2]
  obtain rfl := perm1 hp
  have e1 : ([((c % size : Nat) : Int)]).getD (Int.toNat 0) 0 = ((c % size : Nat) : Int) := rfl
  have e2 : ([((c % size : Nat) : Int)]).getD (-1 + (([((c % size : Nat) : Int)] : List Int).length : Int)).toNat 0 = ((c % size : Nat) : Int) := rfl
  rw [e1] at h1
  rw [e2] at h2
  rw [Bool.bne_false, decide_eq_true (by lia)]
theorem front_q {neg : Bool} {a b c : Nat} : (It.front (.br neg a b c) == Str.ofString "?") = false := by
  cases neg
  · show (Str.ofString "[" == Str.ofString "?") = false; decide
  · show (Str.ofString "[!" == Str.ofString "?") = false; decide
theorem front_n {neg : Bool} {a b c : Nat} : (It.front (.br neg a b c) == Str.ofString "[!") = neg := by
  cases neg
  · show (Str.ofString "[" == Str.ofString "[!") = false; decide
  · show (Str.ofString "[!" == Str.ofString "[!") = true; decide
theorem fits3_0 {neg : Bool} {a b c : Nat} : ¬ (It.front (.br neg a b c) == Str.ofString "?") = true := by rw [front_q]; decide
theorem fits3_v {n : List Int} {a b size : Nat} (hp : n.Perm (List.map (fun k => k.fmod (size : Int)) [(a : Int), (b : Int)])) (o : n.Pairwise (· ≤ ·)) :
    n.getD (Int.toNat 0) 0 = ((min (a % size) (b % size) : Nat) : Int) ∧ n.getD (-1 + (n.length : Int)).toNat 0 = ((max (a % size) (b % size) : Nat) : Int) := by
  obtain rfl := perm2 hp o
  exact ⟨rfl, rfl⟩
theorem fits3_a {n : List Int} {one a b c size : Nat} {neg : Bool} (hp : n.Perm (List.map (fun k => k.fmod (size : Int)) [(a : Int), (b : Int)])) (o : n.Pairwise (· ≤ ·)) (h1 : n.getD (Int.toNat 0) 0 ≤ (one : Int)) (h2 : (one : Int) ≤ n.getD (-1 + (n.length : Int)).toNat 0) :
    (decide ((one : Int) ≤ n.getD (-1 + (n.length : Int)).toNat 0) != (It.front (.br neg a b c) == Str.ofString "[!")) = (((decide (min (a % size) (b % size) ≤ one) && decide (one ≤ max (a % size) (b % size))) || decide (one = c % size)) != neg) := by
  rw [front_n, decide_eq_true h2]
  obtain ⟨e1, e2⟩ := fits3_v hp o
  rw [e1] at h1
  rw [e2] at h2
  rw [decide_eq_true (show min (a % size) (b % size) ≤ one by lia), decide_eq_true (show one ≤ max (a % size) (b % size) by lia)]
  rfl
theorem fits3_eq {one c size : Nat} : ((one : Int) == (c : Int).fmod (size : Int)) = decide (one = c % size) := by
  rw [natmod, Bool.eq_iff_iff]
  simp only [beq_iff_eq, decide_eq_true_eq]
  lia
theorem fits3_b {n : List Int} {one a b c size : Nat} {neg : Bool} (hp : n.Perm (List.map (fun k => k.fmod (size : Int)) [(a : Int), (b : Int)])) (o : n.Pairwise (· ≤ ·)) (_h1 : n.getD (Int.toNat 0) 0 ≤ (one : Int)) (h2 : ¬ (one : Int) ≤ n.getD (-1 + (n.length : Int)).toNat 0) :
    (((one : Int) == (c : Int).fmod (size : Int)) != (It.front (.br neg a b c) == Str.ofString "[!")) = (((decide (min (a % size) (b % size) ≤ one) && decide (one ≤ max (a % size) (b % size))) || decide (one = c % size)) != neg) := by
  obtain ⟨e1, e2⟩ := fits3_v hp o
  rw [e2] at h2
  rw [front_n, fits3_eq, decide_eq_false (show ¬ one ≤ max (a % size) (b % size) by lia), Bool.and_false, Bool.false_or]
theorem fits3_c {n : List Int} {one a b c size : Nat} {neg : Bool} (hp : n.Perm (List.map (fun k => k.fmod (size : Int)) [(a : Int), (b : Int)])) (o : n.Pairwise (· ≤ ·)) (h1 : ¬ n.getD (Int.toNat 0) 0 ≤ (one : Int)) :
    (((one : Int) == (c : Int).fmod (size : Int)) != (It.front (.br neg a b c) == Str.ofString "[!")) = (((decide (min (a % size) (b % size) ≤ one) && decide (one ≤ max (a % size) (b % size))) || decide (one = c % size)) != neg) := by
  obtain ⟨e1, e2⟩ := fits3_v hp o
  rw [e1] at h1
  rw [front_n, fits3_eq, decide_eq_false (show ¬ min (a % size) (b % size) ≤ one by lia), Bool.false_and, Bool.false_or]

namespace K_S_fits1
def P (w : World) (h : Heap) (one : Nat) (size : Nat) (c : Nat) (l : Addr) (t : Tok) (t' : Tok) (tf : Tok) (tc : Tok) (dp : Nat) (un : Nat) (fr : Option (List Env)) (gd : Option (List Code)) (s : Shared) (Q : Value → Shared → Prop) (E : Value → Shared → Prop) : Prop :=
  ∀ (hS : St w h) (hl : h.IsList l #[.int c tc]) (hsz : size = 32 ∨ size = 128), SpecAt w 159 [.str (Str.ofString "") tf, .ref l, .int one t, .int size t'] 4 300 h (fun tl v => tl = [] ∧ v = .bool (decide (one = c % size))) dp un fr gd s Q E
theorem ne : Nonempty ((World) × (Heap) × (Nat) × (Nat) × (Nat) × (Addr) × (Tok) × (Tok) × (Tok) × (Tok) × (Nat) × (Nat) × (Option (List Env)) × (Option (List Code)) × (Shared) × (Value → Shared → Prop) × (Value → Shared → Prop)) := ⟨(w0, Classical.ofNonempty, Classical.ofNonempty, Classical.ofNonempty, Classical.ofNonempty, Classical.ofNonempty, Classical.ofNonempty, Classical.ofNonempty, Classical.ofNonempty, Classical.ofNonempty, Classical.ofNonempty, Classical.ofNonempty, Classical.ofNonempty, Classical.ofNonempty, {}, Classical.ofNonempty, Classical.ofNonempty)⟩
noncomputable def κ : (World) × (Heap) × (Nat) × (Nat) × (Nat) × (Addr) × (Tok) × (Tok) × (Tok) × (Tok) × (Nat) × (Nat) × (Option (List Env)) × (Option (List Code)) × (Shared) × (Value → Shared → Prop) × (Value → Shared → Prop) := pick ne fun c => ¬ P (c.1) (c.2.1) (c.2.2.1) (c.2.2.2.1) (c.2.2.2.2.1) (c.2.2.2.2.2.1) (c.2.2.2.2.2.2.1) (c.2.2.2.2.2.2.2.1) (c.2.2.2.2.2.2.2.2.1) (c.2.2.2.2.2.2.2.2.2.1) (c.2.2.2.2.2.2.2.2.2.2.1) (c.2.2.2.2.2.2.2.2.2.2.2.1) (c.2.2.2.2.2.2.2.2.2.2.2.2.1) (c.2.2.2.2.2.2.2.2.2.2.2.2.2.1) (c.2.2.2.2.2.2.2.2.2.2.2.2.2.2.1) (c.2.2.2.2.2.2.2.2.2.2.2.2.2.2.2.1) (c.2.2.2.2.2.2.2.2.2.2.2.2.2.2.2.2)
noncomputable def w : World := κ.1
noncomputable def h : Heap := κ.2.1
noncomputable def one : Nat := κ.2.2.1
noncomputable def size : Nat := κ.2.2.2.1
noncomputable def c : Nat := κ.2.2.2.2.1
noncomputable def l : Addr := κ.2.2.2.2.2.1
noncomputable def t : Tok := κ.2.2.2.2.2.2.1
noncomputable def t' : Tok := κ.2.2.2.2.2.2.2.1
noncomputable def tf : Tok := κ.2.2.2.2.2.2.2.2.1
noncomputable def tc : Tok := κ.2.2.2.2.2.2.2.2.2.1
noncomputable def dp : Nat := κ.2.2.2.2.2.2.2.2.2.2.1
noncomputable def un : Nat := κ.2.2.2.2.2.2.2.2.2.2.2.1
noncomputable def fr : Option (List Env) := κ.2.2.2.2.2.2.2.2.2.2.2.2.1
noncomputable def gd : Option (List Code) := κ.2.2.2.2.2.2.2.2.2.2.2.2.2.1
noncomputable def s : Shared := κ.2.2.2.2.2.2.2.2.2.2.2.2.2.2.1
noncomputable def Q : Value → Shared → Prop := κ.2.2.2.2.2.2.2.2.2.2.2.2.2.2.2.1
noncomputable def E : Value → Shared → Prop := κ.2.2.2.2.2.2.2.2.2.2.2.2.2.2.2.2
noncomputable def L : Addr := Heap.objs h |>.size
noncomputable def h₁ : Heap := (HTC (hd.heap_39 w.params) 159 w h L dp un fr gd s Q [(Str.ofString "front", .str (Str.ofString "") tf), (Str.ofString "codes", .ref l), (Str.ofString "one", .int one t), (Str.ofString "size", .int size t')]).1
noncomputable def tk : Nat := (HTC (hd.heap_39 w.params) 159 w h L dp un fr gd s Q [(Str.ofString "front", .str (Str.ofString "") tf), (Str.ofString "codes", .ref l), (Str.ofString "one", .int one t), (Str.ofString "size", .int size t')]).2
theorem core : P w h one size c l t t' tf tc dp un fr gd s Q E := by
  intro hS hl hsz hdp hun hh hQ
  w_top off
  refine fillG ?_
  k_fill
  intro _ _
  obtain ⟨X, T⟩ := St.top hS
  refine' enterEC (K := hd.heap_39 w.params) hdp hh L rfl X T [(Str.ofString "front", .str (Str.ofString "") tf), (Str.ofString "codes", .ref l), (Str.ofString "one", .int one t), (Str.ofString "size", .int size t')] ?k3 ?k4 (by lia) ?k6 ?k7 ?k8 ?k9 ?k10 ?k11 h₁ rfl tk rfl ?_
  case k3 => k_is
  case k4 => k_is
  case k6 => exact rfl
  case k7 => exact rfl
  case k8 => decide
  case k9 => exact rfl
  case k10 => exact rfl
  case k11 => exact rfl
  intro cells F N hC
  have hL : L = h.objs.size := rfl
  have hpos : 0 < size := by rcases hsz with q | q <;> rw [q] <;> decide
  replace hC : CellsAre _ [(Str.ofString "size", L + 1)] cells := hC
  obtain ⟨o0, rfl, d0⟩ := CellsAre.one hC
  try dsimp only
  k_steps
  all_goals (try dsimp only)
  all_goals (refine hQ _ [] _ _ (kp_of (by assumption)) Fsh.nil ⟨rfl, congrArg Value.bool ?_⟩)
  all_goals first
    | exact fits1_b
    | exact fits1_a (by assumption) (by assumption) (by assumption)
end K_S_fits1
theorem S_fits1 (w : World) (h : Heap) (one size c : Nat) (l : Addr) (t t' tf tc : Tok) (hS : St w h) (hl : h.IsList l #[.int c tc]) (hsz : size = 32 ∨ size = 128) : Spec w 159 [.str (Str.ofString "") tf, .ref l, .int one t, .int size t'] 4 300 h (fun tl v => tl = [] ∧ v = .bool (decide (one = c % size))) :=
  spec_of fun dp un fr gd s Q E => pickAll K_S_fits1.ne (P := fun c => K_S_fits1.P (c.1) (c.2.1) (c.2.2.1) (c.2.2.2.1) (c.2.2.2.2.1) (c.2.2.2.2.2.1) (c.2.2.2.2.2.2.1) (c.2.2.2.2.2.2.2.1) (c.2.2.2.2.2.2.2.2.1) (c.2.2.2.2.2.2.2.2.2.1) (c.2.2.2.2.2.2.2.2.2.2.1) (c.2.2.2.2.2.2.2.2.2.2.2.1) (c.2.2.2.2.2.2.2.2.2.2.2.2.1) (c.2.2.2.2.2.2.2.2.2.2.2.2.2.1) (c.2.2.2.2.2.2.2.2.2.2.2.2.2.2.1) (c.2.2.2.2.2.2.2.2.2.2.2.2.2.2.2.1) (c.2.2.2.2.2.2.2.2.2.2.2.2.2.2.2.2)) K_S_fits1.core (w, h, one, size, c, l, t, t', tf, tc, dp, un, fr, gd, s, Q, E) hS hl hsz
namespace K_S_fits3
def P (w : World) (h : Heap) (one : Nat) (size : Nat) (a : Nat) (b : Nat) (c : Nat) (neg : Bool) (l : Addr) (t : Tok) (t' : Tok) (tf : Tok) (ta : Tok) (tb : Tok) (tc : Tok) (dp : Nat) (un : Nat) (fr : Option (List Env)) (gd : Option (List Code)) (s : Shared) (Q : Value → Shared → Prop) (E : Value → Shared → Prop) : Prop :=
  ∀ (hS : St w h) (hl : h.IsList l #[.int a ta, .int b tb, .int c tc]) (hsz : size = 32 ∨ size = 128), SpecAt w 159 [.str (It.front (.br neg a b c)) tf, .ref l, .int one t, .int size t'] 4 300 h (fun tl v => tl = [] ∧ v = .bool (((decide (min (a % size) (b % size) ≤ one) && decide (one ≤ max (a % size) (b % size))) || decide (one = c % size)) != neg)) dp un fr gd s Q E
theorem ne : Nonempty ((World) × (Heap) × (Nat) × (Nat) × (Nat) × (Nat) × (Nat) × (Bool) × (Addr) × (Tok) × (Tok) × (Tok) × (Tok) × (Tok) × (Tok) × (Nat) × (Nat) × (Option (List Env)) × (Option (List Code)) × (Shared) × (Value → Shared → Prop) × (Value → Shared → Prop)) := ⟨(w0, Classical.ofNonempty, Classical.ofNonempty, Classical.ofNonempty, Classical.ofNonempty, Classical.ofNonempty, Classical.ofNonempty, Classical.ofNonempty, Classical.ofNonempty, Classical.ofNonempty, Classical.ofNonempty, Classical.ofNonempty, Classical.ofNonempty, Classical.ofNonempty, Classical.ofNonempty, Classical.ofNonempty, Classical.ofNonempty, Classical.ofNonempty, Classical.ofNonempty, {}, Classical.ofNonempty, Classical.ofNonempty)⟩
noncomputable def κ : (World) × (Heap) × (Nat) × (Nat) × (Nat) × (Nat) × (Nat) × (Bool) × (Addr) × (Tok) × (Tok) × (Tok) × (Tok) × (Tok) × (Tok) × (Nat) × (Nat) × (Option (List Env)) × (Option (List Code)) × (Shared) × (Value → Shared → Prop) × (Value → Shared → Prop) := pick ne fun c => ¬ P (c.1) (c.2.1) (c.2.2.1) (c.2.2.2.1) (c.2.2.2.2.1) (c.2.2.2.2.2.1) (c.2.2.2.2.2.2.1) (c.2.2.2.2.2.2.2.1) (c.2.2.2.2.2.2.2.2.1) (c.2.2.2.2.2.2.2.2.2.1) (c.2.2.2.2.2.2.2.2.2.2.1) (c.2.2.2.2.2.2.2.2.2.2.2.1) (c.2.2.2.2.2.2.2.2.2.2.2.2.1) (c.2.2.2.2.2.2.2.2.2.2.2.2.2.1) (c.2.2.2.2.2.2.2.2.2.2.2.2.2.2.1) (c.2.2.2.2.2.2.2.2.2.2.2.2.2.2.2.1) (c.2.2.2.2.2.2.2.2.2.2.2.2.2.2.2.2.1) (c.2.2.2.2.2.2.2.2.2.2.2.2.2.2.2.2.2.1) (c.2.2.2.2.2.2.2.2.2.2.2.2.2.2.2.2.2.2.1) (c.2.2.2.2.2.2.2.2.2.2.2.2.2.2.2.2.2.2.2.1) (c.2.2.2.2.2.2.2.2.2.2.2.2.2.2.2.2.2.2.2.2.1) (c.2.2.2.2.2.2.2.2.2.2.2.2.2.2.2.2.2.2.2.2.2)
noncomputable def w : World := κ.1
noncomputable def h : Heap := κ.2.1
noncomputable def one : Nat := κ.2.2.1
noncomputable def size : Nat := κ.2.2.2.1
noncomputable def a : Nat := κ.2.2.2.2.1
noncomputable def b : Nat := κ.2.2.2.2.2.1
noncomputable def c : Nat := κ.2.2.2.2.2.2.1
noncomputable def neg : Bool := κ.2.2.2.2.2.2.2.1
noncomputable def l : Addr := κ.2.2.2.2.2.2.2.2.1
noncomputable def t : Tok := κ.2.2.2.2.2.2.2.2.2.1
noncomputable def t' : Tok := κ.2.2.2.2.2.2.2.2.2.2.1
noncomputable def tf : Tok := κ.2.2.2.2.2.2.2.2.2.2.2.1
noncomputable def ta : Tok := κ.2.2.2.2.2.2.2.2.2.2.2.2.1
noncomputable def tb : Tok := κ.2.2.2.2.2.2.2.2.2.2.2.2.2.1
noncomputable def tc : Tok := κ.2.2.2.2.2.2.2.2.2.2.2.2.2.2.1
noncomputable def dp : Nat := κ.2.2.2.2.2.2.2.2.2.2.2.2.2.2.2.1
noncomputable def un : Nat := κ.2.2.2.2.2.2.2.2.2.2.2.2.2.2.2.2.1
noncomputable def fr : Option (List Env) := κ.2.2.2.2.2.2.2.2.2.2.2.2.2.2.2.2.2.1
noncomputable def gd : Option (List Code) := κ.2.2.2.2.2.2.2.2.2.2.2.2.2.2.2.2.2.2.1
noncomputable def s : Shared := κ.2.2.2.2.2.2.2.2.2.2.2.2.2.2.2.2.2.2.2.1
noncomputable def Q : Value → Shared → Prop := κ.2.2.2.2.2.2.2.2.2.2.2.2.2.2.2.2.2.2.2.2.1
noncomputable def E : Value → Shared → Prop := κ.2.2.2.2.2.2.2.2.2.2.2.2.2.2.2.2.2.2.2.2.2
noncomputable def L : Addr := Heap.objs h |>.size
noncomputable def h₁ : Heap := (HTC (hd.heap_39 w.params) 159 w h L dp un fr gd s Q [(Str.ofString "front", .str (It.front (.br neg a b c)) tf), (Str.ofString "codes", .ref l), (Str.ofString "one", .int one t), (Str.ofString "size", .int size t')]).1
noncomputable def tk : Nat := (HTC (hd.heap_39 w.params) 159 w h L dp un fr gd s Q [(Str.ofString "front", .str (It.front (.br neg a b c)) tf), (Str.ofString "codes", .ref l), (Str.ofString "one", .int one t), (Str.ofString "size", .int size t')]).2
theorem core : P w h one size a b c neg l t t' tf ta tb tc dp un fr gd s Q E := by
  intro hS hl hsz hdp hun hh hQ
  w_top off
  refine fillG ?_
  k_fill
  intro _ _
  obtain ⟨X, T⟩ := St.top hS
  refine' enterEC (K := hd.heap_39 w.params) hdp hh L rfl X T [(Str.ofString "front", .str (It.front (.br neg a b c)) tf), (Str.ofString "codes", .ref l), (Str.ofString "one", .int one t), (Str.ofString "size", .int size t')] ?k3 ?k4 (by lia) ?k6 ?k7 ?k8 ?k9 ?k10 ?k11 h₁ rfl tk rfl ?_
  case k3 => k_is
  case k4 => k_is
  case k6 => exact rfl
  case k7 => exact rfl
  case k8 => decide
  case k9 => exact rfl
  case k10 => exact rfl
  case k11 => exact rfl
  intro cells F N hC
  have hL : L = h.objs.size := rfl
  have hpos : 0 < size := by rcases hsz with q | q <;> rw [q] <;> decide
  replace hC : CellsAre _ [(Str.ofString "size", L + 1)] cells := hC
  obtain ⟨o0, rfl, d0⟩ := CellsAre.one hC
  try dsimp only
  k_steps
  all_goals (try dsimp only)
  all_goals (refine hQ _ [] _ _ (kp_of (by assumption)) Fsh.nil ⟨rfl, congrArg Value.bool ?_⟩)
  all_goals first
    | exact absurd (by assumption) (fits3_0 (neg := neg) (a := a) (b := b) (c := c))
    | exact fits3_a (by assumption) (by assumption) (by assumption) (by assumption)
    | exact fits3_b (by assumption) (by assumption) (by assumption) (by assumption)
    | exact fits3_c (by assumption) (by assumption) (by assumption)
end K_S_fits3
theorem S_fits3 (w : World) (h : Heap) (one size a b c : Nat) (neg : Bool) (l : Addr) (t t' tf ta tb tc : Tok) (hS : St w h) (hl : h.IsList l #[.int a ta, .int b tb, .int c tc]) (hsz : size = 32 ∨ size = 128) : Spec w 159 [.str (It.front (.br neg a b c)) tf, .ref l, .int one t, .int size t'] 4 300 h (fun tl v => tl = [] ∧ v = .bool (((decide (min (a % size) (b % size) ≤ one) && decide (one ≤ max (a % size) (b % size))) || decide (one = c % size)) != neg)) :=
  spec_of fun dp un fr gd s Q E => pickAll K_S_fits3.ne (P := fun c => K_S_fits3.P (c.1) (c.2.1) (c.2.2.1) (c.2.2.2.1) (c.2.2.2.2.1) (c.2.2.2.2.2.1) (c.2.2.2.2.2.2.1) (c.2.2.2.2.2.2.2.1) (c.2.2.2.2.2.2.2.2.1) (c.2.2.2.2.2.2.2.2.2.1) (c.2.2.2.2.2.2.2.2.2.2.1) (c.2.2.2.2.2.2.2.2.2.2.2.1) (c.2.2.2.2.2.2.2.2.2.2.2.2.1) (c.2.2.2.2.2.2.2.2.2.2.2.2.2.1) (c.2.2.2.2.2.2.2.2.2.2.2.2.2.2.1) (c.2.2.2.2.2.2.2.2.2.2.2.2.2.2.2.1) (c.2.2.2.2.2.2.2.2.2.2.2.2.2.2.2.2.1) (c.2.2.2.2.2.2.2.2.2.2.2.2.2.2.2.2.2.1) (c.2.2.2.2.2.2.2.2.2.2.2.2.2.2.2.2.2.2.1) (c.2.2.2.2.2.2.2.2.2.2.2.2.2.2.2.2.2.2.2.1) (c.2.2.2.2.2.2.2.2.2.2.2.2.2.2.2.2.2.2.2.2.1) (c.2.2.2.2.2.2.2.2.2.2.2.2.2.2.2.2.2.2.2.2.2)) K_S_fits3.core (w, h, one, size, a, b, c, neg, l, t, t', tf, ta, tb, tc, dp, un, fr, gd, s, Q, E) hS hl hsz
namespace K_S_fits0
def P (w : World) (h : Heap) (one : Nat) (size : Nat) (l : Addr) (t : Tok) (t' : Tok) (tf : Tok) (dp : Nat) (un : Nat) (fr : Option (List Env)) (gd : Option (List Code)) (s : Shared) (Q : Value → Shared → Prop) (E : Value → Shared → Prop) : Prop :=
  ∀ (hS : St w h) (hl : h.IsList l #[]) (hsz : size = 32 ∨ size = 128), SpecAt w 159 [.str (Str.ofString "?") tf, .ref l, .int one t, .int size t'] 4 300 h (fun tl v => tl = [] ∧ v = .bool true) dp un fr gd s Q E
theorem ne : Nonempty ((World) × (Heap) × (Nat) × (Nat) × (Addr) × (Tok) × (Tok) × (Tok) × (Nat) × (Nat) × (Option (List Env)) × (Option (List Code)) × (Shared) × (Value → Shared → Prop) × (Value → Shared → Prop)) := ⟨(w0, Classical.ofNonempty, Classical.ofNonempty, Classical.ofNonempty, Classical.ofNonempty, Classical.ofNonempty, Classical.ofNonempty, Classical.ofNonempty, Classical.ofNonempty, Classical.ofNonempty, Classical.ofNonempty, Classical.ofNonempty, {}, Classical.ofNonempty, Classical.ofNonempty)⟩
noncomputable def κ : (World) × (Heap) × (Nat) × (Nat) × (Addr) × (Tok) × (Tok) × (Tok) × (Nat) × (Nat) × (Option (List Env)) × (Option (List Code)) × (Shared) × (Value → Shared → Prop) × (Value → Shared → Prop) := pick ne fun c => ¬ P (c.1) (c.2.1) (c.2.2.1) (c.2.2.2.1) (c.2.2.2.2.1) (c.2.2.2.2.2.1) (c.2.2.2.2.2.2.1) (c.2.2.2.2.2.2.2.1) (c.2.2.2.2.2.2.2.2.1) (c.2.2.2.2.2.2.2.2.2.1) (c.2.2.2.2.2.2.2.2.2.2.1) (c.2.2.2.2.2.2.2.2.2.2.2.1) (c.2.2.2.2.2.2.2.2.2.2.2.2.1) (c.2.2.2.2.2.2.2.2.2.2.2.2.2.1) (c.2.2.2.2.2.2.2.2.2.2.2.2.2.2)
noncomputable def w : World := κ.1
noncomputable def h : Heap := κ.2.1
noncomputable def one : Nat := κ.2.2.1
noncomputable def size : Nat := κ.2.2.2.1
noncomputable def l : Addr := κ.2.2.2.2.1
noncomputable def t : Tok := κ.2.2.2.2.2.1
noncomputable def t' : Tok := κ.2.2.2.2.2.2.1
noncomputable def tf : Tok := κ.2.2.2.2.2.2.2.1
noncomputable def dp : Nat := κ.2.2.2.2.2.2.2.2.1
noncomputable def un : Nat := κ.2.2.2.2.2.2.2.2.2.1
noncomputable def fr : Option (List Env) := κ.2.2.2.2.2.2.2.2.2.2.1
noncomputable def gd : Option (List Code) := κ.2.2.2.2.2.2.2.2.2.2.2.1
noncomputable def s : Shared := κ.2.2.2.2.2.2.2.2.2.2.2.2.1
noncomputable def Q : Value → Shared → Prop := κ.2.2.2.2.2.2.2.2.2.2.2.2.2.1
noncomputable def E : Value → Shared → Prop := κ.2.2.2.2.2.2.2.2.2.2.2.2.2.2
noncomputable def L : Addr := Heap.objs h |>.size
noncomputable def h₁ : Heap := (HTC (hd.heap_39 w.params) 159 w h L dp un fr gd s Q [(Str.ofString "front", .str (Str.ofString "?") tf), (Str.ofString "codes", .ref l), (Str.ofString "one", .int one t), (Str.ofString "size", .int size t')]).1
noncomputable def tk : Nat := (HTC (hd.heap_39 w.params) 159 w h L dp un fr gd s Q [(Str.ofString "front", .str (Str.ofString "?") tf), (Str.ofString "codes", .ref l), (Str.ofString "one", .int one t), (Str.ofString "size", .int size t')]).2
theorem core : P w h one size l t t' tf dp un fr gd s Q E := by
  intro hS hl hsz hdp hun hh hQ
  w_top off
  refine fillG ?_
  k_fill
  intro _ _
  obtain ⟨X, T⟩ := St.top hS
  refine' enterEC (K := hd.heap_39 w.params) hdp hh L rfl X T [(Str.ofString "front", .str (Str.ofString "?") tf), (Str.ofString "codes", .ref l), (Str.ofString "one", .int one t), (Str.ofString "size", .int size t')] ?k3 ?k4 (by lia) ?k6 ?k7 ?k8 ?k9 ?k10 ?k11 h₁ rfl tk rfl ?_
  case k3 => k_is
  case k4 => k_is
  case k6 => exact rfl
  case k7 => exact rfl
  case k8 => decide
  case k9 => exact rfl
  case k10 => exact rfl
  case k11 => exact rfl
  intro cells F N hC
  have hL : L = h.objs.size := rfl
  have hpos : 0 < size := by rcases hsz with q | q <;> rw [q] <;> decide
  replace hC : CellsAre _ [(Str.ofString "size", L + 1)] cells := hC
  obtain ⟨o0, rfl, d0⟩ := CellsAre.one hC
  try dsimp only
  k_steps
  all_goals (try dsimp only)
  all_goals (refine hQ _ [] _ _ (kp_of (by assumption)) Fsh.nil ⟨rfl, congrArg Value.bool ?_⟩)
  all_goals decide
end K_S_fits0
theorem S_fits0 (w : World) (h : Heap) (one size : Nat) (l : Addr) (t t' tf : Tok) (hS : St w h) (hl : h.IsList l #[]) (hsz : size = 32 ∨ size = 128) : Spec w 159 [.str (Str.ofString "?") tf, .ref l, .int one t, .int size t'] 4 300 h (fun tl v => tl = [] ∧ v = .bool true) :=
  spec_of fun dp un fr gd s Q E => pickAll K_S_fits0.ne (P := fun c => K_S_fits0.P (c.1) (c.2.1) (c.2.2.1) (c.2.2.2.1) (c.2.2.2.2.1) (c.2.2.2.2.2.1) (c.2.2.2.2.2.2.1) (c.2.2.2.2.2.2.2.1) (c.2.2.2.2.2.2.2.2.1) (c.2.2.2.2.2.2.2.2.2.1) (c.2.2.2.2.2.2.2.2.2.2.1) (c.2.2.2.2.2.2.2.2.2.2.2.1) (c.2.2.2.2.2.2.2.2.2.2.2.2.1) (c.2.2.2.2.2.2.2.2.2.2.2.2.2.1) (c.2.2.2.2.2.2.2.2.2.2.2.2.2.2)) K_S_fits0.core (w, h, one, size, l, t, t', tf, dp, un, fr, gd, s, Q, E) hS hl hsz
theorem ints_nil {vs : List Value} (h : IntsAre vs []) : vs = [] := by cases h; rfl
theorem ints_cons {vs : List Value} {a : Int} {r : List Int} (h : IntsAre vs (a :: r)) : ∃ t ws, vs = .int a t :: ws ∧ IntsAre ws r := by cases h with | cons _ t q => exact ⟨t, _, rfl, q⟩
theorem S_fits (w : World) (h : Heap) (it : It) (hit : it ≠ .star) (one size : Nat) (l : Addr) (vs : List Value) (t t' tf : Tok) (hS : St w h) (hl : h.IsList l vs.toArray) (hi : IntsAre vs it.codes) (hsz : size = 32 ∨ size = 128) :
    Spec w 159 [.str it.front tf, .ref l, .int one t, .int size t'] 4 300 h (fun tl v => tl = [] ∧ v = .bool (fitsP it size one)) := by
  cases it with
  | star => exact absurd rfl hit
  | any => obtain rfl := ints_nil hi; exact S_fits0 w h one size l t t' tf hS hl hsz
  | sign c => obtain ⟨tc, ws, rfl, r⟩ := ints_cons hi; obtain rfl := ints_nil r; exact S_fits1 w h one size c l t t' tf tc hS hl hsz
  | br neg a b c => obtain ⟨ta, w1, rfl, r1⟩ := ints_cons hi; obtain ⟨tb, w2, rfl, r2⟩ := ints_cons r1; obtain ⟨tc, w3, rfl, r3⟩ := ints_cons r2; obtain rfl := ints_nil r3; exact S_fits3 w h one size a b c neg l t t' tf ta tb tc hS hl hsz

end Mine
end
section
open PySem PySem.W PyProof.Rows PySem.Calls
set_option Elab.async false
set_option maxRecDepth 100000
set_option maxHeartbeats 1000000
namespace Mine
theorem codes_rep {x : Int} {n : Nat} {vs : List Value} (h : IntsAre vs (List.replicate n [x.fmod 256]).flatten) : IntsAre vs ((List.replicate n (x.fmod 256).toNat).map fun c : Nat => (c : Int)) := by
  have e : (List.replicate n (x.fmod 256).toNat).map (fun c : Nat => (c : Int)) = (List.replicate n [x.fmod 256]).flatten := by
    rw [List.map_replicate, fmod_nat]
    induction n with
    | zero => rfl
    | succ n ih => rw [List.replicate_succ, List.replicate_succ, List.flatten_cons]; simpa using ih
  rw [e]; exact h
section
namespace K_S_codes
def P (w : World) (h : Heap) (x : Int) (t : Tok) (dp : Nat) (un : Nat) (fr : Option (List Env)) (gd : Option (List Code)) (s : Shared) (Q : Value → Shared → Prop) (E : Value → Shared → Prop) : Prop :=
  ∀ (hS : St w h) (h0 : 0 ≤ x) (h1 : x < 1000000000000), SpecAt w 104 [.int x t] 3 300 h (fun tl v => IntsIn tl v ((codesOf x).map fun c : Nat => (c : Int))) dp un fr gd s Q E
theorem ne : Nonempty ((World) × (Heap) × (Int) × (Tok) × (Nat) × (Nat) × (Option (List Env)) × (Option (List Code)) × (Shared) × (Value → Shared → Prop) × (Value → Shared → Prop)) := ⟨(w0, Classical.ofNonempty, Classical.ofNonempty, Classical.ofNonempty, Classical.ofNonempty, Classical.ofNonempty, Classical.ofNonempty, Classical.ofNonempty, {}, Classical.ofNonempty, Classical.ofNonempty)⟩
noncomputable def c : (World) × (Heap) × (Int) × (Tok) × (Nat) × (Nat) × (Option (List Env)) × (Option (List Code)) × (Shared) × (Value → Shared → Prop) × (Value → Shared → Prop) := pick ne fun c => ¬ P (c.1) (c.2.1) (c.2.2.1) (c.2.2.2.1) (c.2.2.2.2.1) (c.2.2.2.2.2.1) (c.2.2.2.2.2.2.1) (c.2.2.2.2.2.2.2.1) (c.2.2.2.2.2.2.2.2.1) (c.2.2.2.2.2.2.2.2.2.1) (c.2.2.2.2.2.2.2.2.2.2)
noncomputable def w : World := c.1
noncomputable def h : Heap := c.2.1
noncomputable def x : Int := c.2.2.1
noncomputable def t : Tok := c.2.2.2.1
noncomputable def dp : Nat := c.2.2.2.2.1
noncomputable def un : Nat := c.2.2.2.2.2.1
noncomputable def fr : Option (List Env) := c.2.2.2.2.2.2.1
noncomputable def gd : Option (List Code) := c.2.2.2.2.2.2.2.1
noncomputable def s : Shared := c.2.2.2.2.2.2.2.2.1
noncomputable def Q : Value → Shared → Prop := c.2.2.2.2.2.2.2.2.2.1
noncomputable def E : Value → Shared → Prop := c.2.2.2.2.2.2.2.2.2.2
noncomputable def L : Addr := Heap.objs h |>.size
noncomputable def h₁ : Heap := (HT (hd.heap_39 w.params) 104 w h L dp un fr gd s Q [(Str.ofString "x", .int x t)]).1
noncomputable def tk : Nat := (HT (hd.heap_39 w.params) 104 w h L dp un fr gd s Q [(Str.ofString "x", .int x t)]).2
theorem core : P w h x t dp un fr gd s Q E := by
  intro hS h0 h1 hdp hun hh hQ
  w_top off
  refine fillG ?_
  k_fill
  intro _ _
  obtain ⟨X, T⟩ := St.top hS
  refine' enterE (K := hd.heap_39 w.params) hdp hh L rfl X T [(Str.ofString "x", .int x t)] ?k3 ?k4 (by lia) ?k6 ?k7 ?k8 ?k9 ?k10 ?k11 h₁ rfl tk rfl ?_
  case k3 => k_is
  case k4 => k_is
  case k6 => exact rfl
  case k7 => decide
  case k8 => exact locs rfl
  case k9 => exact rfl
  case k10 => exact rfl
  case k11 => exact rfl
  intro F N
  have hL : L = h.objs.size := rfl
  try dsimp only
  k_steps
  repeat' ((first | (with_reducible (refine Stop.bin ?_; first | refine pow27 ?_ | refine pow30 ?_ | refine pow33 ?_ | refine pow12 ?_))); (try k_steps))
  all_goals (try dsimp only)
  · have e : codesOf x = List.replicate ((x.fdiv 8).fmod 3).toNat ((x.fdiv 8 + 32 * x.fdiv 134217728 + x.fdiv 8589934592).fmod 256).toNat := by simp only [codesOf]; rw [if_pos (by assumption)]
    refine hQ _ _ _ _ (kp_of (by assumption)) (fsh_of (by assumption)) ⟨_, _, _, rfl, .head _, ?_⟩
    rw [e]; exact codes_rep (by assumption)
  · have e : codesOf x = [((x.fdiv 8 + 32 * x.fdiv 134217728 + x.fdiv 8589934592).fmod 256).toNat] := by simp only [codesOf]; rw [if_neg (by assumption), if_pos (by assumption)]
    refine hQ _ _ _ _ (kp_of (by assumption)) (fsh_of (by assumption)) ⟨_, [_], _, rfl, .head _, ?_⟩
    rw [e]; exact codes1
  · have e : codesOf x = [] := by simp only [codesOf]; rw [if_neg (by assumption), if_neg (by assumption)]
    refine hQ _ _ _ _ (kp_of (by assumption)) (fsh_of (by assumption)) ⟨_, [], _, rfl, .head _, ?_⟩
    rw [e]; exact .nil
end K_S_codes
theorem S_codes (w : World) (h : Heap) (x : Int) (t : Tok) (hS : St w h) (h0 : 0 ≤ x) (h1 : x < 1000000000000) : Spec w 104 [.int x t] 3 300 h (fun tl v => IntsIn tl v ((codesOf x).map fun c : Nat => (c : Int))) :=
  spec_of fun dp un fr gd s Q E => pickAll K_S_codes.ne (P := fun c => K_S_codes.P (c.1) (c.2.1) (c.2.2.1) (c.2.2.2.1) (c.2.2.2.2.1) (c.2.2.2.2.2.1) (c.2.2.2.2.2.2.1) (c.2.2.2.2.2.2.2.1) (c.2.2.2.2.2.2.2.2.1) (c.2.2.2.2.2.2.2.2.2.1) (c.2.2.2.2.2.2.2.2.2.2)) K_S_codes.core (w, h, x, t, dp, un, fr, gd, s, Q, E) hS h0 h1
end
end Mine
end
section
open PySem PySem.W PyProof.Rows PySem.Calls
set_option Elab.async false
set_option maxRecDepth 100000
set_option maxHeartbeats 400000
namespace Mine
open PyProof.Rows.LCg (NsObj ns_obj lst lst_snoc SrcAt)
theorem le_in {es : List Nat} {N M : Nat} (h : ∀ n ∈ es, n ≤ N) (hm : M ∈ es) : M ≤ N := h _ hm
def ItsAt (h : Heap) (l : Addr) (its : List It) : Prop := ∃ vs : List Value, h.IsList l vs.toArray ∧ All2 (ItAt h) vs its
def dueStep (name : List Nat) (size : Nat) (S : Nat → Prop) (it : It) : Nat → Prop := fun n =>
  match it with
  | .star => n ≤ name.length ∧ ∃ m, m ≤ n ∧ S m
  | it => ∃ k, n = k + 1 ∧ k < name.length ∧ fitsP it size (name.getD k 0) = true ∧ S k
def dueSet (name : List Nat) (size : Nat) (its : List It) : Nat → Prop := its.foldl (dueStep name size) (fun n => n = 0)
structure DueInv (name : List Nat) (size : Nat) (its : List It) (es : List Nat) : Prop where
  len : es.length ≤ name.length + 1
  le : ∀ n ∈ es, n ≤ name.length
  mem : ∀ n, n ∈ es ↔ dueSet name size its n
theorem dueSet_snoc {name : List Nat} {size : Nat} {its : List It} {it : It} : dueSet name size (its ++ [it]) = dueStep name size (dueSet name size its) it := by
  simp [dueSet, List.foldl_append]
theorem front_star {it : It} : (it.front == Str.ofString "*") = true ↔ it = .star := by
  cases it with
  | star => exact ⟨fun _ => rfl, fun _ => by decide⟩
  | any => exact ⟨fun h => absurd h (by decide), fun h => nomatch h⟩
  | sign c => exact ⟨fun h => absurd h (by show ¬ (Str.ofString "" == Str.ofString "*") = true; decide), fun h => nomatch h⟩
  | br neg a b c => cases neg <;> exact ⟨fun h => absurd h (by first | (show ¬ (Str.ofString "[" == Str.ofString "*") = true; decide) | (show ¬ (Str.ofString "[!" == Str.ofString "*") = true; decide)), fun h => nomatch h⟩
theorem ne_star {it : It} (h : (it.front == Str.ofString "*") = false) : it ≠ .star := fun e => by
  rw [front_star.mpr e] at h; cases h
theorem due_nil {name : List Nat} {size : Nat} {its : List It} {it : It} {es : List Nat} (h : DueInv name size its es) (e1 : (it.front == Str.ofString "*") = true) (e2 : decide ((es.map fun c : Nat => (c : Int)) = []) = true) : DueInv name size (its ++ [it]) [] := by
  obtain rfl := front_star.mp e1
  have e3 : es = [] := by simpa using e2
  subst e3
  refine ⟨by simp, (fun n hn => nomatch hn), fun n => ⟨(fun hn => nomatch hn), fun hn => ?_⟩⟩
  rw [dueSet_snoc] at hn
  obtain ⟨_, m, _, hm⟩ := hn
  exact absurd ((h.mem m).mpr hm) (by simp)
theorem due_star {name : List Nat} {size : Nat} {its : List It} {it : It} {es : List Nat} {M : Nat} {vs : List Value} {k : Nat} (h : DueInv name size its es) (e1 : (it.front == Str.ofString "*") = true) (hM : M ∈ es) (hle : ∀ a : Int, a ∈ (es.map fun c : Nat => (c : Int)) → (M : Int) ≤ a)
    (hv : IntsAre vs (rangeKs (M : Int) k)) (hk : k = name.length + 1 - M) : ∃ es', IntsAre vs (es'.map fun c : Nat => (c : Int)) ∧ DueInv name size (its ++ [it]) es' := by
  obtain rfl := front_star.mp e1
  have hMn := h.le _ hM
  refine ⟨(List.range k).map (fun i => M + i), ?_, ?_, ?_, ?_⟩
  · rw [List.map_map]
    have e : List.map ((fun c : Nat => (c : Int)) ∘ fun i => M + i) (List.range k) = rangeKs (M : Int) k := by
      unfold rangeKs
      apply List.map_congr_left
      intro i _
      simp
    rw [e]; exact hv
  · rw [List.length_map, List.length_range, hk]; exact Nat.sub_le _ _
  · intro n hn
    obtain ⟨i, hi, rfl⟩ := List.mem_map.mp hn
    have := List.mem_range.mp hi
    rw [hk] at this
    exact Nat.le_of_lt_succ (by rw [Nat.add_comm]; exact Nat.add_lt_of_lt_sub this)
  · intro n
    rw [dueSet_snoc]
    constructor
    · intro hn
      obtain ⟨i, hi, rfl⟩ := List.mem_map.mp hn
      have := List.mem_range.mp hi
      rw [hk] at this
      exact ⟨Nat.le_of_lt_succ (by rw [Nat.add_comm]; exact Nat.add_lt_of_lt_sub this), M, Nat.le_add_right _ _, (h.mem M).mp hM⟩
    · intro hq1
      (try k_fold)
      obtain ⟨hn, m, hm, hS⟩ := hq1
      have h1 : M ≤ m := by
        have := hle (m : Int) (List.mem_map.mpr ⟨m, (h.mem m).mpr hS, rfl⟩)
        exact Int.ofNat_le.mp this
      exact List.mem_map.mpr ⟨n - M, List.mem_range.mpr (by rw [hk]; exact Nat.sub_lt_sub_right (Nat.le_trans h1 hm) (Nat.lt_succ_of_le hn)), Nat.add_sub_cancel' (Nat.le_trans h1 hm)⟩
def dueKeep (name : List Nat) (size : Nat) (it : It) (es : List Nat) : List Nat := (es.filter fun k => decide (k < name.length) && fitsP it size (name.getD k 0)).map (· + 1)
theorem due_keep {name : List Nat} {size : Nat} {its : List It} {it : It} {es : List Nat} (h : DueInv name size its es) (e1 : (it.front == Str.ofString "*") = false) : DueInv name size (its ++ [it]) (dueKeep name size it es) := by
  have hst := ne_star e1
  have hs : ∀ n, dueStep name size (dueSet name size its) it n ↔ ∃ k, n = k + 1 ∧ k < name.length ∧ fitsP it size (name.getD k 0) = true ∧ dueSet name size its k := by
    intro n
    cases it with
    | star => exact absurd rfl hst
    | _ => exact Iff.rfl
  refine ⟨?_, ?_, ?_⟩
  · rw [dueKeep, List.length_map]; exact Nat.le_trans (List.length_filter_le _ _) h.len
  · intro n hn
    obtain ⟨k, hk, rfl⟩ := List.mem_map.mp hn
    have := (List.mem_filter.mp hk).2
    simp at this
    show k + 1 ≤ _
    lia
  · intro n
    rw [dueSet_snoc, hs]
    constructor
    · intro hn
      obtain ⟨k, hk, rfl⟩ := List.mem_map.mp hn
      have h1 := (List.mem_filter.mp hk).1
      have h2 := (List.mem_filter.mp hk).2
      simp only [Bool.and_eq_true, decide_eq_true_eq] at h2
      exact ⟨k, rfl, h2.1, h2.2, (h.mem k).mp h1⟩
    · intro hq2
      (try k_fold)
      obtain ⟨k, rfl, h1, h2, h3⟩ := hq2
      exact List.mem_map.mpr ⟨k, List.mem_filter.mpr ⟨(h.mem k).mpr h3, by simp only [Bool.and_eq_true, decide_eq_true_eq]; exact ⟨h1, h2⟩⟩, rfl⟩
theorem keep_take {name : List Nat} {size : Nat} {it : It} {es : List Nat} {j n : Nat} (h : es[j]? = some n) : dueKeep name size it (es.take (j + 1)) = dueKeep name size it (es.take j) ++ (if (decide (n < name.length) && fitsP it size (name.getD n 0)) = true then [n + 1] else []) := by
  rw [take_snoc h]
  unfold dueKeep
  rw [List.filter_append, List.map_append, List.filter_cons, List.filter_nil]
  split <;> rfl
theorem due_in {name : List Nat} {size : Nat} {its : List It} {es : List Nat} (h : DueInv name size its es) : ((es.map fun c : Nat => (c : Int)).any (· == ((name.map fun c : Nat => (c : Int)).length : Int))) = true ↔ dueSet name size its name.length := by
  rw [← h.mem, List.any_eq_true, List.length_map]
  constructor
  · intro hq3
    (try k_fold)
    obtain ⟨x, hx, e⟩ := hq3
    obtain ⟨k, hk, rfl⟩ := List.mem_map.mp hx
    have : k = name.length := by
      have := eq_of_beq e
      lia
    exact this ▸ hk
  · intro hn
    exact ⟨_, List.mem_map.mpr ⟨_, hn, rfl⟩, by simp⟩

inductive JD (name : List Nat) (size : Nat) (its : List It) (l L : Addr) (o2 o3 : Obj) (i : Nat) (m : Str → Option Value) (news : List (Addr × Obj)) : Prop
  | mk (ae : _) (ve : _) (ne : _) (oc : _) (og : _) (xc : _) (xf : _) (es : _) (h1 : m = (fun y => if y = Str.ofString "ends" then some (.ref ae) else if y = Str.ofString "items" then some (.ref l) else none)) (h2 : news = [(ae, W.listOf (List.toArray ve) ne), (L + 4, oc), (L + 3, og), (L + 2, o2), (L + 1, o3)]) (h3 : oc.data = .cell xc) (h4 : og.data = .cell xf) (h5 : (@Ne Nat ae (L + 4) ∧ @Ne Nat ae (L + 3) ∧ @Ne Nat ae (L + 2) ∧ @Ne Nat ae (L + 1))) (h6 : IntsAre ve (es.map fun c : Nat => (c : Int))) (h7 : DueInv name size (its.take i) es) : JD name size its l L o2 o3 i m news
section
local macro_rules | `(tactic| walk_at "execs cons") => `(tactic| wtm_at "mXC")
local macro_rules | `(tactic| k_ne) => `(tactic| (refine PySem.W.neN ?_; first | exact Ne.symm (by assumption) | assumption | omega))
local macro_rules | `(tactic| walk_at "eval ListComp") => `(tactic| wtm_at "mS")

local macro_rules | `(tactic| walk_at "subscriptTail Name Name ref int") => `(tactic| wtm_at "mS")
namespace K_S_due
def P (w : World) (h : Heap) (l : Addr) (ln : Addr) (its : List It) (size : Nat) (ts : Tok) (vn : List Value) (name : List Nat) (dp : Nat) (un : Nat) (fr : Option (List Env)) (gd : Option (List Code)) (s : Shared) (Q : Value → Shared → Prop) (E : Value → Shared → Prop) : Prop :=
  ∀ (hS : St w h) (hl : ItsAt h l its) (hn : h.IsList ln vn.toArray) (hi : IntsAre vn (name.map fun c : Nat => (c : Int))) (hlen : its.length ≤ 100) (hnl : name.length ≤ 100) (hsz : size = 32 ∨ size = 128), SpecAt w 164 [.ref l, .ref ln, .int size ts] 10 600 h (fun tl v => ∃ b, v = .bool b ∧ (b = true ↔ dueSet name size its name.length)) dp un fr gd s Q E
theorem ne : Nonempty ((World) × (Heap) × (Addr) × (Addr) × (List It) × (Nat) × (Tok) × (List Value) × (List Nat) × (Nat) × (Nat) × (Option (List Env)) × (Option (List Code)) × (Shared) × (Value → Shared → Prop) × (Value → Shared → Prop)) := ⟨(w0, Classical.ofNonempty, Classical.ofNonempty, Classical.ofNonempty, Classical.ofNonempty, Classical.ofNonempty, Classical.ofNonempty, Classical.ofNonempty, Classical.ofNonempty, Classical.ofNonempty, Classical.ofNonempty, Classical.ofNonempty, Classical.ofNonempty, {}, Classical.ofNonempty, Classical.ofNonempty)⟩
noncomputable def κ : (World) × (Heap) × (Addr) × (Addr) × (List It) × (Nat) × (Tok) × (List Value) × (List Nat) × (Nat) × (Nat) × (Option (List Env)) × (Option (List Code)) × (Shared) × (Value → Shared → Prop) × (Value → Shared → Prop) := pick ne fun c => ¬ P (c.1) (c.2.1) (c.2.2.1) (c.2.2.2.1) (c.2.2.2.2.1) (c.2.2.2.2.2.1) (c.2.2.2.2.2.2.1) (c.2.2.2.2.2.2.2.1) (c.2.2.2.2.2.2.2.2.1) (c.2.2.2.2.2.2.2.2.2.1) (c.2.2.2.2.2.2.2.2.2.2.1) (c.2.2.2.2.2.2.2.2.2.2.2.1) (c.2.2.2.2.2.2.2.2.2.2.2.2.1) (c.2.2.2.2.2.2.2.2.2.2.2.2.2.1) (c.2.2.2.2.2.2.2.2.2.2.2.2.2.2.1) (c.2.2.2.2.2.2.2.2.2.2.2.2.2.2.2)
noncomputable def w : World := κ.1
noncomputable def h : Heap := κ.2.1
noncomputable def l : Addr := κ.2.2.1
noncomputable def ln : Addr := κ.2.2.2.1
noncomputable def its : List It := κ.2.2.2.2.1
noncomputable def size : Nat := κ.2.2.2.2.2.1
noncomputable def ts : Tok := κ.2.2.2.2.2.2.1
noncomputable def vn : List Value := κ.2.2.2.2.2.2.2.1
noncomputable def name : List Nat := κ.2.2.2.2.2.2.2.2.1
noncomputable def dp : Nat := κ.2.2.2.2.2.2.2.2.2.1
noncomputable def un : Nat := κ.2.2.2.2.2.2.2.2.2.2.1
noncomputable def fr : Option (List Env) := κ.2.2.2.2.2.2.2.2.2.2.2.1
noncomputable def gd : Option (List Code) := κ.2.2.2.2.2.2.2.2.2.2.2.2.1
noncomputable def s : Shared := κ.2.2.2.2.2.2.2.2.2.2.2.2.2.1
noncomputable def Q : Value → Shared → Prop := κ.2.2.2.2.2.2.2.2.2.2.2.2.2.2.1
noncomputable def E : Value → Shared → Prop := κ.2.2.2.2.2.2.2.2.2.2.2.2.2.2.2
noncomputable def L : Addr := Heap.objs h |>.size
noncomputable def h₁ : Heap := (HTC (hd.heap_39 w.params) 164 w h L dp un fr gd s Q [(Str.ofString "items", .ref l), (Str.ofString "name", .ref ln), (Str.ofString "size", .int size ts)]).1
noncomputable def tk : Nat := (HTC (hd.heap_39 w.params) 164 w h L dp un fr gd s Q [(Str.ofString "items", .ref l), (Str.ofString "name", .ref ln), (Str.ofString "size", .int size ts)]).2
theorem core : P w h l ln its size ts vn name dp un fr gd s Q E := by
  intro hS hl hn hi hlen hnl hsz hdp hun hh hQ
  w_top off
  refine fillG ?_
  k_fill
  intro _ _
  obtain ⟨X, T⟩ := St.top hS
  refine' enterEC (K := hd.heap_39 w.params) hdp hh L rfl X T [(Str.ofString "items", .ref l), (Str.ofString "name", .ref ln), (Str.ofString "size", .int size ts)] ?k3 ?k4 (by lia) ?k6 ?k7 ?k8 ?k9 ?k10 ?k11 h₁ rfl tk rfl ?_
  case k3 => k_is
  case k4 => k_is
  case k6 => exact rfl
  case k7 => exact rfl
  case k8 => decide
  case k9 => exact rfl
  case k10 => exact rfl
  case k11 => exact rfl
  intro cells F N hC
  have hL : L = h.objs.size := rfl
  replace hC : CellsAre _ [(Str.ofString "codes", L + 4), (Str.ofString "front", L + 3), (Str.ofString "size", L + 2), (Str.ofString "name", L + 1)] cells := hC
  obtain ⟨o0, o1, o2, o3, rfl, d0, d1, d2, d3⟩ := CellsAre.four hC
  replace F : Fr h L h₁ (fun y => if y = Str.ofString "items" then some (.ref l) else none) := F
  replace d0 : o0.data = .cell (none) := d0
  replace d1 : o1.data = .cell (none) := d1
  replace d2 : o2.data = .cell (some (.int size ts)) := d2
  replace d3 : o3.data = .cell (some (.ref ln)) := d3
  clear hC
  try dsimp only
  k_steps
  repeat' ((first | ((with_reducible refine Stop.sub ?_); (refine' item_nat (by is_list) (by assumption) ?k1 ?k2 ?_ (by with_unfolding_all rfl)); (case k1 => first | lia | (simp only [List.length_map, decide_eq_true_eq] at *; lia)); (case k2 => first | lia | (simp only [List.length_map, decide_eq_true_eq] at *; lia)); intro _) | ((with_reducible refine Stop.ref ?_); (first | refine use_spec0 (S_fits _ _ _ (ne_star (by assumption)) _ _ _ _ _ _ _ stK (islist_keeps (by assumption) (kp_of (by assumption))) (by assumption) (by assumption)) rfl (by first | exact bud (by assumption) (by rfl) | exact bud0 (by assumption) (by rfl) | (dsimp only [AA]; lia)) (by first | exact bud (by assumption) (by rfl) | exact bud0 (by assumption) (by rfl) | (dsimp only [AA]; lia)) (by assumption) (by assumption) ?_); intro _ _ _ _)); (try k_steps))
  unfold Stop
  obtain ⟨vs, hl, hall⟩ := hl
  (with_reducible rename Fr _ _ _ _ => Fx)
  refine my_for Fx (by rfl) (by intro _; rfl) (fun _ _ _ _ _ _ hit q => go_tuple hit q) ?_
  walk1
  refine ⟨l, vs, JD name size its l L o2 o3, _, rfl, by assumption, by assumption, ?_, ?_, ?_, ?_⟩
  · refine ⟨_, [_], _, _, _, _, _, [0], rfl, rfl, by assumption, by assumption, ⟨by lia, by lia, by lia, by lia⟩, .cons _ _ .nil, ?_⟩
    exact ⟨by simp, by simp, fun n => by simp [dueSet]⟩
  · intro i m news hq4
    (try k_fold)
    obtain ⟨ae, ve, ne, oc, og, xc, xf, es, rfl, rfl, r⟩ := hq4
    exact .inl hl
  · intro i v m₁ news₁ h3 tk3 I oI hv hq5 F3 N3 off3
    (try k_fold)
    obtain ⟨ae, ve, ne, oc, og, xc, xf, es, rfl, rfl, hoc, hog, hlt, hes, hinv⟩ := hq5
    obtain ⟨it, hit, a, li, vc, tf, rfl, hia, hil, hic⟩ := hall.get hv
    have hia3 := islist_keeps hia F3.keep
    clear Fx
    have n1 : @Ne Nat ae I := off3 _ (.head _)
    have n2 : @Ne Nat (L + 4) I := off3 _ (.tail _ (.head _))
    have n3 : @Ne Nat (L + 3) I := off3 _ (.tail _ (.tail _ (.head _)))
    have n4 : @Ne Nat (L + 2) I := off3 _ (.tail _ (.tail _ (.tail _ (.head _))))
    have n5 : @Ne Nat (L + 1) I := off3 _ (.tail _ (.tail _ (.tail _ (.tail _ (.head _)))))
    obtain ⟨n6, n7, n8, n9⟩ := hlt
    have hlenes := hinv.len
    have hleb := hinv.le
    have hts := take_snoc hit
    k_steps
    repeat' ((first | ((with_reducible refine Stop.sub ?_); (refine' item_nat (by is_list) (by assumption) ?k1 ?k2 ?_ (by with_unfolding_all rfl)); (case k1 => first | lia | (simp only [List.length_map, decide_eq_true_eq] at *; lia)); (case k2 => first | lia | (simp only [List.length_map, decide_eq_true_eq] at *; lia)); intro _) | ((with_reducible refine Stop.ref ?_); (first | refine use_spec0 (S_fits _ _ _ (ne_star (by assumption)) _ _ _ _ _ _ _ stK (islist_keeps (by assumption) (kp_of (by assumption))) (by assumption) (by assumption)) rfl (by first | exact bud (by assumption) (by rfl) | exact bud0 (by assumption) (by rfl) | (dsimp only [AA]; lia)) (by first | exact bud (by assumption) (by rfl) | exact bud0 (by assumption) (by rfl) | (dsimp only [AA]; lia)) (by assumption) (by assumption) ?_); intro _ _ _ _)); (try k_steps))
    · unfold FPost
      refine FEnd.mk (fr_same (by assumption) fun y => if_twice) (by assumption) (by repeat (first | exact sub_nil | refine sub_cons (by repeat (first | exact List.Mem.head _ | refine List.Mem.tail _ ?_)) ?_)) (by repeat (first | exact off_nil | refine off_cons (by first | assumption | lia) ?_)) ⟨_, [], _, _, _, _, _, [], rfl, rfl, by assumption, by assumption, ⟨by lia, by lia, by lia, by lia⟩, .nil, ?_⟩
      rw [hts]; exact due_nil hinv (by assumption) (by assumption)
    · unfold Stop
      (with_unfolding_all refine' kso_min ?k1 ?k2 ?k3 ?k4 ?k5 ?k6 ?_; (case k1 => k_asm); (case k2 => k_asm); (case k3 => kso_list); (case k4 => l_ints); (case k5 => exact pos_of_ne (by assumption)); (case k6 => with_unfolding_all rfl))
      intro h' M' t' k' F' N' a' b'
      obtain ⟨M0, hM0, eM⟩ := List.mem_map.mp a'
      subst eM
      have hb := le_in (by assumption) hM0
      k_steps
      repeat' ((first | ((with_reducible refine Stop.sub ?_); (refine' item_nat (by is_list) (by assumption) ?k1 ?k2 ?_ (by with_unfolding_all rfl)); (case k1 => first | lia | (simp only [List.length_map, decide_eq_true_eq] at *; lia)); (case k2 => first | lia | (simp only [List.length_map, decide_eq_true_eq] at *; lia)); intro _) | ((with_reducible refine Stop.ref ?_); (first | refine use_spec0 (S_fits _ _ _ (ne_star (by assumption)) _ _ _ _ _ _ _ stK (islist_keeps (by assumption) (kp_of (by assumption))) (by assumption) (by assumption)) rfl (by first | exact bud (by assumption) (by rfl) | exact bud0 (by assumption) (by rfl) | (dsimp only [AA]; lia)) (by first | exact bud (by assumption) (by rfl) | exact bud0 (by assumption) (by rfl) | (dsimp only [AA]; lia)) (by assumption) (by assumption) ?_); intro _ _ _ _)); (try k_steps))
      unfold Stop
      rename IsRange _ _ _ _ _ _ _ _ => rgX
      (refine' kll_range ?k0 ?k1 ?k2 rgX ?k4 ?k5 ?k6 ?_; (case k0 => rfl); (case k1 => k_asm); (case k2 => k_asm); (case k4 => (simp only [List.length_map]; exact small_one (by lia) (by lia) (by lia) (by lia))); (case k5 => exact rangeSize_nat _ _); (case k6 => (simp only [List.length_map]; lia)))
      intro D' vs' c' h' tk' F' N' l1 hI'
      (try k_lt l1)
      k_steps
      repeat' ((first | ((with_reducible refine Stop.sub ?_); (refine' item_nat (by is_list) (by assumption) ?k1 ?k2 ?_ (by with_unfolding_all rfl)); (case k1 => first | lia | (simp only [List.length_map, decide_eq_true_eq] at *; lia)); (case k2 => first | lia | (simp only [List.length_map, decide_eq_true_eq] at *; lia)); intro _) | ((with_reducible refine Stop.ref ?_); (first | refine use_spec0 (S_fits _ _ _ (ne_star (by assumption)) _ _ _ _ _ _ _ stK (islist_keeps (by assumption) (kp_of (by assumption))) (by assumption) (by assumption)) rfl (by first | exact bud (by assumption) (by rfl) | exact bud0 (by assumption) (by rfl) | (dsimp only [AA]; lia)) (by first | exact bud (by assumption) (by rfl) | exact bud0 (by assumption) (by rfl) | (dsimp only [AA]; lia)) (by assumption) (by assumption) ?_); intro _ _ _ _)); (try k_steps))
      unfold FPost
      obtain ⟨es', i1, i2⟩ := due_star hinv (by assumption) (by assumption) (by assumption) (by assumption) (by (try simp only [List.length_map]); lia)
      refine FEnd.mk (fr_same (by assumption) fun y => if_twice) (by assumption) (by repeat (first | exact sub_nil | refine sub_cons (by repeat (first | exact List.Mem.head _ | refine List.Mem.tail _ ?_)) ?_)) (by repeat (first | exact off_nil | refine off_cons (by first | assumption | lia) ?_)) ⟨_, _, _, _, _, _, _, es', rfl, rfl, by assumption, by assumption, ⟨by lia, by lia, by lia, by lia⟩, i1, ?_⟩
      rw [hts]; exact i2
    · unfold Stop
      (with_reducible rename Fr _ _ _ _ => Fx)
      refine my_comp_list_assign Fx (by rfl) rfl (by rfl) (by with_unfolding_all rfl) (by decide) (by rfl) (by decide) (by intro _; rfl) (by rfl) (by rfl) (fun _ _ _ _ _ _ _ q => go_name q) ?_
      walk1
      have hvl : ve.length = es.length := by rw [hes.length, List.length_map]
      refine ex4 ae ve _ (fun j ys news => news = _ ∧ ys.length ≤ j ∧ IntsAre ys ((dueKeep name size it (es.take j)).map fun c : Nat => (c : Int))) ⟨rfl, ⟨by assumption, by assumption, Nat.le_trans (by lia : ve.length ≤ 1000) (by decide), ⟨rfl, by simp, .nil⟩, ?_, ?_⟩, ?_⟩
      · intro j ys news hq6
        (try k_fold)
        obtain ⟨rfl, hy, _⟩ := hq6
        exact ⟨hy, .inr ⟨W.listOf (List.toArray ve) ne, .tail _ (.head _), rfl, _, rfl⟩⟩
      · intro j v ys news C oC D I' oI' h5 tk5 hv5 hq7 cs hoff
        (try k_fold)
        obtain ⟨rfl, hy5, hi5⟩ := hq7
        obtain ⟨e, te, rfl, he⟩ := ints_at hes hv5
        have hk := keep_take (name := name) (size := size) (it := it) he
        have heb := hleb e (List.mem_of_getElem? he)
        refine comp_name rfl rfl cs ?_
        intro h6 tk6 oC6 mC6 cs6 ho6 hm6
        obtain ⟨F6, N6, off6, cd6, _⟩ := cs6
        clear cs Fx
        k_steps
        repeat' ((first | ((with_reducible refine Stop.sub ?_); (refine' item_nat (by is_list) (by assumption) ?k1 ?k2 ?_ (by with_unfolding_all rfl)); (case k1 => first | lia | (simp only [List.length_map, decide_eq_true_eq] at *; lia)); (case k2 => first | lia | (simp only [List.length_map, decide_eq_true_eq] at *; lia)); intro _) | ((with_reducible refine Stop.ref ?_); (first | refine use_spec0 (S_fits _ _ _ (ne_star (by assumption)) _ _ _ _ _ _ _ stK (islist_keeps (by assumption) (kp_of (by assumption))) (by assumption) (by assumption)) rfl (by first | exact bud (by assumption) (by rfl) | exact bud0 (by assumption) (by rfl) | (dsimp only [AA]; lia)) (by first | exact bud (by assumption) (by rfl) | exact bud0 (by assumption) (by rfl) | (dsimp only [AA]; lia)) (by assumption) (by assumption) ?_); intro _ _ _ _)); (try k_steps))
        · have q' : (e : Int) < ((name.map fun c : Nat => (c : Int)).length : Int) := by assumption
          rw [List.length_map] at q'
          rw [if_pos (by simp only [Bool.and_eq_true, decide_eq_true_eq]; exact ⟨by lia, by assumption⟩)] at hk
          refine CEndI.mk (by assumption) (by assumption) off6 cd6 ho6 hoff ⟨rfl, ?_, ?_⟩
          · first | exact Nat.succ_le_succ hy5 | (rw [List.length_append]; exact Nat.succ_le_succ hy5)
          · rw [hk]
            exact ints_snoc hi5
        · rw [if_neg (by simp only [Bool.and_eq_true, decide_eq_true_eq]; rintro ⟨_, q⟩; simp_all), List.append_nil] at hk
          refine CEndI.mk (by assumption) (by assumption) off6 cd6 ho6 hoff ⟨rfl, by lia, ?_⟩
          rw [hk]
          exact hi5
        · have q' : ¬ (e : Int) < ((name.map fun c : Nat => (c : Int)).length : Int) := by assumption
          rw [List.length_map] at q'
          rw [if_neg (by simp only [Bool.and_eq_true, decide_eq_true_eq]; rintro ⟨q, _⟩; lia), List.append_nil] at hk
          refine CEndI.mk (by assumption) (by assumption) off6 cd6 ho6 hoff ⟨rfl, by lia, ?_⟩
          rw [hk]
          exact hi5
      · intro D ys news h6 tk6 hq8 F6 N6 off6
        (try k_fold)
        obtain ⟨rfl, hy6, hi6⟩ := hq8
        rw [List.take_of_length_le (by lia)] at hi6
        dsimp only
        clear Fx
        k_steps
        repeat' ((first | ((with_reducible refine Stop.sub ?_); (refine' item_nat (by is_list) (by assumption) ?k1 ?k2 ?_ (by with_unfolding_all rfl)); (case k1 => first | lia | (simp only [List.length_map, decide_eq_true_eq] at *; lia)); (case k2 => first | lia | (simp only [List.length_map, decide_eq_true_eq] at *; lia)); intro _) | ((with_reducible refine Stop.ref ?_); (first | refine use_spec0 (S_fits _ _ _ (ne_star (by assumption)) _ _ _ _ _ _ _ stK (islist_keeps (by assumption) (kp_of (by assumption))) (by assumption) (by assumption)) rfl (by first | exact bud (by assumption) (by rfl) | exact bud0 (by assumption) (by rfl) | (dsimp only [AA]; lia)) (by first | exact bud (by assumption) (by rfl) | exact bud0 (by assumption) (by rfl) | (dsimp only [AA]; lia)) (by assumption) (by assumption) ?_); intro _ _ _ _)); (try k_steps))
        unfold FPost
        have m1 : @Ne Nat D I := Ne.symm (off6 _ (.head _))
        have m2 : @Ne Nat D (L + 4) := Ne.symm (off6 _ (.tail _ (.tail _ (.head _))))
        have m3 : @Ne Nat D (L + 3) := Ne.symm (off6 _ (.tail _ (.tail _ (.tail _ (.head _)))))
        have m4 : @Ne Nat D (L + 2) := Ne.symm (off6 _ (.tail _ (.tail _ (.tail _ (.tail _ (.head _))))))
        have m5 : @Ne Nat D (L + 1) := Ne.symm (off6 _ (.tail _ (.tail _ (.tail _ (.tail _ (.tail _ (.head _)))))))
        refine FEnd.mk (fr_same (by assumption) fun y => if_twice) (by assumption) (by repeat (first | exact sub_nil | refine sub_cons (by repeat (first | exact List.Mem.head _ | refine List.Mem.tail _ ?_)) ?_)) (by repeat (first | exact off_nil | refine off_cons (by first | assumption | lia) ?_)) ⟨_, _, _, _, _, _, _, _, rfl, rfl, by assumption, by assumption, ⟨m2, m3, m4, m5⟩, hi6, ?_⟩
        rw [hts]; exact due_keep hinv (by assumption)
  · intro m₁ news₁ h3 tk3 hq9 F3 N3
    (try k_fold)
    obtain ⟨ae, ve, ne, oc, og, xc, xf, es, rfl, rfl, hoc, hog, hlt, hes, hinv⟩ := hq9
    have hall1 := hall.1
    rw [List.take_of_length_le (by lia)] at hinv
    clear Fx
    k_steps
    repeat' ((first | ((with_reducible refine Stop.sub ?_); (refine' item_nat (by is_list) (by assumption) ?k1 ?k2 ?_ (by with_unfolding_all rfl)); (case k1 => first | lia | (simp only [List.length_map, decide_eq_true_eq] at *; lia)); (case k2 => first | lia | (simp only [List.length_map, decide_eq_true_eq] at *; lia)); intro _) | ((with_reducible refine Stop.ref ?_); (first | refine use_spec0 (S_fits _ _ _ (ne_star (by assumption)) _ _ _ _ _ _ _ stK (islist_keeps (by assumption) (kp_of (by assumption))) (by assumption) (by assumption)) rfl (by first | exact bud (by assumption) (by rfl) | exact bud0 (by assumption) (by rfl) | (dsimp only [AA]; lia)) (by first | exact bud (by assumption) (by rfl) | exact bud0 (by assumption) (by rfl) | (dsimp only [AA]; lia)) (by assumption) (by assumption) ?_); intro _ _ _ _)); (try k_steps))
    exact hQ _ [] _ _ (kp_of (by assumption)) Fsh.nil ⟨_, rfl, due_in hinv⟩
end K_S_due
theorem S_due (w : World) (h : Heap) (l ln : Addr) (its : List It) (size : Nat) (ts : Tok) (vn : List Value) (name : List Nat) (hS : St w h) (hl : ItsAt h l its) (hn : h.IsList ln vn.toArray) (hi : IntsAre vn (name.map fun c : Nat => (c : Int))) (hlen : its.length ≤ 100) (hnl : name.length ≤ 100) (hsz : size = 32 ∨ size = 128) : Spec w 164 [.ref l, .ref ln, .int size ts] 10 600 h (fun tl v => ∃ b, v = .bool b ∧ (b = true ↔ dueSet name size its name.length)) :=
  spec_of fun dp un fr gd s Q E => pickAll K_S_due.ne (P := fun c => K_S_due.P (c.1) (c.2.1) (c.2.2.1) (c.2.2.2.1) (c.2.2.2.2.1) (c.2.2.2.2.2.1) (c.2.2.2.2.2.2.1) (c.2.2.2.2.2.2.2.1) (c.2.2.2.2.2.2.2.2.1) (c.2.2.2.2.2.2.2.2.2.1) (c.2.2.2.2.2.2.2.2.2.2.1) (c.2.2.2.2.2.2.2.2.2.2.2.1) (c.2.2.2.2.2.2.2.2.2.2.2.2.1) (c.2.2.2.2.2.2.2.2.2.2.2.2.2.1) (c.2.2.2.2.2.2.2.2.2.2.2.2.2.2.1) (c.2.2.2.2.2.2.2.2.2.2.2.2.2.2.2)) K_S_due.core (w, h, l, ln, its, size, ts, vn, name, dp, un, fr, gd, s, Q, E) hS hl hn hi hlen hnl hsz
end
end Mine
end
section
open PySem PySem.W PyProof.Rows PySem.Calls
open PyProof.Rows.LCg (NsObj ns_obj lst lst_snoc SrcAt)
set_option Elab.async false
set_option maxRecDepth 100000
set_option maxHeartbeats 4000000
namespace Mine
/-- a string's iterator -/
def StrIt (h : Heap) (i : Addr) (x : Str) (t : Tok) (k : Nat) : Prop := ∃ ty, (ty = "str_ascii_iterator" ∨ ty = "str_iterator") ∧ h.IsStrIter i ty x t k
theorem StrIt.ext {h h' : Heap} {i b : Addr} {x : Str} {t : Tok} {k : Nat} (y : StrIt h i x t k) (hs : Heap.ExtBut b h h') (hab : i ≠ b) : StrIt h' i x t k := by
  obtain ⟨ty, e, q⟩ := y; exact ⟨ty, e, q.extBut hs hab⟩
theorem StrIt.of {h : Heap} {i : Addr} {x : Str} {t : Tok} {k : Nat} (y : h.IsStrIter i (strIterType x) x t k) : StrIt h i x t k := by
  refine ⟨_, ?_, y⟩
  unfold strIterType
  split <;> simp
abbrev zObj (TI TO : Addr) : Obj := { cls := .type "zip", dict := none, data := .fields #[.none, .bool false, .bool false, .ref TI, .ref TO], slots := #[] }
abbrev pObj (a b : Value) : Obj := { cls := .type "tuple", data := .seq #[a, b] }
section
variable {prog : Program} {w : World} {A : Around} {E : Value → Shared → Prop} {s : Shared}
theorem next_str {it : Addr} {x : Str} {t : Tok} {i c : Nat} {Q : Value → Shared → Prop} (hit : StrIt s.heap it x t i) (hx : x.cps[i]? = some c)
    (hQ : ∀ h', StrIt h' it x t (i + 1) → Heap.SameBut it s.heap h' → Q (.str ⟨#[c]⟩ s.toks) { s with heap := h', toks := s.toks + 1 }) :
    wpAny (model prog w) A (Builtin.SmallTypes.nextOf (.ref it)) Q E s := by
  obtain ⟨ty, rfl | rfl, y⟩ := hit
  · exact wpAny_nextOf_ascii_item y hx fun h' a b => hQ h' ⟨_, .inl rfl, a⟩ b
  · exact wpAny_nextOf_wide_item y hx fun h' a b => hQ h' ⟨_, .inr rfl, a⟩ b
theorem next_str_end {it : Addr} {x : Str} {t : Tok} {i : Nat} {Q : Value → Shared → Prop} (hh : A.handled = none) (hit : StrIt s.heap it x t i) (hx : x.cps[i]? = none)
    (hE : ∀ h' e, Heap.ExtBut it s.heap h' → (∃ o, h'.get? e = some o ∧ o.cls = .type "StopIteration") → E (.ref e) { s with heap := h' }) :
    wpAny (model prog w) A (Builtin.SmallTypes.nextOf (.ref it)) Q E s := by
  obtain ⟨ty, rfl | rfl, y⟩ := hit
  · exact wpAny_nextOf_ascii_end hh y hx hE
  · exact wpAny_nextOf_wide_end hh y hx hE

/-- what stands of a zip over a list and a string -/
structure ZS (h : Heap) (z TI TO i1 i2 l : Addr) (xs : Array Value) (x : Str) (t : Tok) (k : Nat) (f0 : Value) : Prop where
  z : IsZip h z TI TO f0
  ti : IsPair h TI (.ref i1) (.ref i2)
  to : ∃ a b, IsPair h TO a b
  a : h.IsListIter i1 l k
  b : StrIt h i2 x t k
  l : h.IsList l xs

def K_zs_item.P (z : Addr) (TI : Addr) (TO : Addr) (i1 : Addr) (i2 : Addr) (l : Addr) (k : Nat) (c : Nat) (xs : Array Value) (x : Str) (t : Tok) (v : Value) (Q : Value → Shared → Prop) : Prop :=
  ∀ (D : ZipApart z TI TO i1 i2 l l) (S : ZS s.heap z TI TO i1 i2 l xs x t k .none) (hx : xs[k]? = some v) (hc : x.cps[k]? = some c) (hQ : ∀ h' tk' t', ZS h' z TI TO i1 i2 l xs x t (k + 1) (rawInt s.heap.objs.size) → IsPair h' s.heap.objs.size v (.str ⟨#[c]⟩ t') →
      (∀ c o, c ≠ z → c ≠ TO → c ≠ i1 → c ≠ i2 → s.heap.get? c = some o → h'.get? c = some o) → Q (.ref s.heap.objs.size) { s with heap := h', toks := tk' }), wpAny (model prog w) A (Builtin.«zip.__next__» ⟨[.ref z], []⟩) (fun fin s' => ∃ v, fin = .done (.ret v) ∧ Q v s') E s
end
namespace K_zs_item
theorem ne : Nonempty ((Program) × (World) × (Around) × (Value → Shared → Prop) × (Shared) × (Addr) × (Addr) × (Addr) × (Addr) × (Addr) × (Addr) × (Nat) × (Nat) × (Array Value) × (Str) × (Tok) × (Value) × (Value → Shared → Prop)) := ⟨(Classical.ofNonempty, w0, ⟨none, 0, none, none, 0⟩, Classical.ofNonempty, {}, Classical.ofNonempty, Classical.ofNonempty, Classical.ofNonempty, Classical.ofNonempty, Classical.ofNonempty, Classical.ofNonempty, Classical.ofNonempty, Classical.ofNonempty, Classical.ofNonempty, Classical.ofNonempty, Classical.ofNonempty, Classical.ofNonempty, Classical.ofNonempty)⟩
noncomputable def κ : (Program) × (World) × (Around) × (Value → Shared → Prop) × (Shared) × (Addr) × (Addr) × (Addr) × (Addr) × (Addr) × (Addr) × (Nat) × (Nat) × (Array Value) × (Str) × (Tok) × (Value) × (Value → Shared → Prop) := pick ne fun c => ¬ @P (c.1) (c.2.1) (c.2.2.1) (c.2.2.2.1) (c.2.2.2.2.1) (c.2.2.2.2.2.1) (c.2.2.2.2.2.2.1) (c.2.2.2.2.2.2.2.1) (c.2.2.2.2.2.2.2.2.1) (c.2.2.2.2.2.2.2.2.2.1) (c.2.2.2.2.2.2.2.2.2.2.1) (c.2.2.2.2.2.2.2.2.2.2.2.1) (c.2.2.2.2.2.2.2.2.2.2.2.2.1) (c.2.2.2.2.2.2.2.2.2.2.2.2.2.1) (c.2.2.2.2.2.2.2.2.2.2.2.2.2.2.1) (c.2.2.2.2.2.2.2.2.2.2.2.2.2.2.2.1) (c.2.2.2.2.2.2.2.2.2.2.2.2.2.2.2.2.1) (c.2.2.2.2.2.2.2.2.2.2.2.2.2.2.2.2.2)
noncomputable def prog : Program := κ.1
noncomputable def w : World := κ.2.1
noncomputable def A : Around := κ.2.2.1
noncomputable def E : Value → Shared → Prop := κ.2.2.2.1
noncomputable def s : Shared := κ.2.2.2.2.1
noncomputable def z : Addr := κ.2.2.2.2.2.1
noncomputable def TI : Addr := κ.2.2.2.2.2.2.1
noncomputable def TO : Addr := κ.2.2.2.2.2.2.2.1
noncomputable def i1 : Addr := κ.2.2.2.2.2.2.2.2.1
noncomputable def i2 : Addr := κ.2.2.2.2.2.2.2.2.2.1
noncomputable def l : Addr := κ.2.2.2.2.2.2.2.2.2.2.1
noncomputable def k : Nat := κ.2.2.2.2.2.2.2.2.2.2.2.1
noncomputable def c : Nat := κ.2.2.2.2.2.2.2.2.2.2.2.2.1
noncomputable def xs : Array Value := κ.2.2.2.2.2.2.2.2.2.2.2.2.2.1
noncomputable def x : Str := κ.2.2.2.2.2.2.2.2.2.2.2.2.2.2.1
noncomputable def t : Tok := κ.2.2.2.2.2.2.2.2.2.2.2.2.2.2.2.1
noncomputable def v : Value := κ.2.2.2.2.2.2.2.2.2.2.2.2.2.2.2.2.1
noncomputable def Q : Value → Shared → Prop := κ.2.2.2.2.2.2.2.2.2.2.2.2.2.2.2.2.2
theorem core : @P prog w A E s z TI TO i1 i2 l k c xs x t v Q := by
  intro D S hx hc hQ
  obtain ⟨hz, hTI, ⟨a, b, hTO⟩, h1, h2, hl⟩ := S
  show wpAny _ _ (field (.ref z) 2 >>= _) _ _ _
  refine wpAny_bind (wpAny_field hz rfl (x := .bool false) rfl ?_)
  show wpAny _ _ (field (.ref z) 3 >>= _) _ _ _
  refine wpAny_bind (wpAny_field hz rfl (x := .ref TI) rfl ?_)
  refine wpAny_bind (wpAny_seqItems hTI rfl ?_)
  show wpAny _ _ (Builtin.SmallTypes.ownedTupleIsFree (.ref z) >>= _) _ _ _
  refine wpAny_bind ?_
  unfold Builtin.SmallTypes.ownedTupleIsFree
  refine wpAny_bind (wpAny_field hz rfl (x := .none) rfl (wpAny_pure ?_))
  simp only [if_true]
  refine wpAny_bind (wpAny_rule ?_)
  refine wpAny_bind (wpAny_field hz rfl (x := .ref TO) rfl ?_)
  refine wpAny_bind (wpAny_setField_rec hz (by simp) fun g1 z1 s1 => ?_)
  replace z1 : IsZip g1 z TI TO .ellipsis := z1
  refine wpAny_bind ?_
  simp only [List.zipIdx_cons, List.zipIdx_nil, List.forIn_cons, List.forIn_nil]
  refine wpAny_bind (wpAny_bind (wpAny_onRaise ?_))
  show wpAny _ _ (Builtin.SmallTypes.nextOf (.ref i1) >>= _) _ _ _
  refine wpAny_bind (wpAny_nextOf_list_item (h1.extBut s1.extBut D.i1z) (hl.extBut s1.extBut D.l1z) hx fun g2 it1 s2 => wpAny_pure ?_)
  have t2 : IsPair g2 TO a b := s2.extBut _ _ D.TOi1 (s1.extBut _ _ D.TOz hTO)
  refine wpAny_bind (wpAny_seqItems t2 rfl ?_)
  refine wpAny_bind (wpAny_updateSeq_pair t2 fun g3 t3 s3 => ?_)
  replace t3 : IsPair g3 TO v b := t3
  refine wpAny_bind (wpAny_letGo (wpAny_pure ?_))
  refine wpAny_bind (wpAny_bind (wpAny_onRaise ?_))
  show wpAny _ _ (Builtin.SmallTypes.nextOf (.ref i2) >>= _) _ _ _
  refine wpAny_bind (next_str (((h2.ext s1.extBut D.i2z).ext s2.extBut D.i12.symm).ext s3.extBut D.TOi2.symm) hc fun g4 it2 s4 => wpAny_pure ?_)
  have t4 : IsPair g4 TO v b := s4.extBut _ _ D.TOi2 t3
  refine wpAny_bind (wpAny_seqItems t4 rfl ?_)
  refine wpAny_bind (wpAny_updateSeq_pair t4 fun g5 t5 s5 => ?_)
  replace t5 : IsPair g5 TO v (.str ⟨#[c]⟩ s.toks) := t5
  refine wpAny_bind (wpAny_letGo (wpAny_pure (wpAny_pure ?_)))
  refine wpAny_bind (wpAny_seqItems t5 rfl ?_)
  refine wpAny_bind (wpAny_newTuple ?_)
  have hsz : g5.objs.size = s.heap.objs.size := by rw [s5.1, s4.1, s3.1, s2.1, s1.1]
  have z5 : IsZip g5 z TI TO .ellipsis := s5.extBut _ _ D.TOz.symm (s4.extBut _ _ D.i2z.symm (s3.extBut _ _ D.TOz.symm (s2.extBut _ _ D.i1z.symm z1)))
  have k5 : ∀ c o, c ≠ z → c ≠ TO → c ≠ i1 → c ≠ i2 → s.heap.get? c = some o → g5.get? c = some o := fun c o c1 c2 c3 c4 e =>
    s5.extBut _ _ c2 (s4.extBut _ _ c4 (s3.extBut _ _ c2 (s2.extBut _ _ c3 (s1.extBut _ _ c1 e))))
  have a5 : g5.IsListIter i1 l (k + 1) := ((it1.extBut s3.extBut D.TOi1.symm).extBut s4.extBut D.i12).extBut s5.extBut D.TOi1.symm
  have b5 : StrIt g5 i2 x t (k + 1) := it2.ext s5.extBut D.TOi2.symm
  have zlt : z < g5.objs.size := Heap.lt_size z5
  show wpAny _ _ (Builtin.SmallTypes.ownedTupleHandOut (.ref z) (.ref g5.objs.size) >>= _) _ _ _
  refine wpAny_bind ?_
  unfold Builtin.SmallTypes.ownedTupleHandOut
  have z6 : IsZip (g5.push (pObj v (.str ⟨#[c]⟩ s.toks))) z TI TO .ellipsis := Heap.get?_push_of_some _ z5
  refine wpAny_bind (wpAny_setField_rec z6 (by simp) fun g7 z7 s7 => ?_)
  replace z7 : IsZip g7 z TI TO (rawInt g5.objs.size) := z7
  refine wpAny_setField_rec z7 (by simp) fun g8 z8 s8 => ?_
  replace z8 : IsZip g8 z TI TO (rawInt g5.objs.size) := z8
  have up : ∀ c o, c ≠ z → g5.get? c = some o → g8.get? c = some o := fun c o c1 e => s8.extBut _ _ c1 (s7.extBut _ _ c1 (Heap.get?_push_of_some _ e))
  have T8 : IsPair g8 g5.objs.size v (.str ⟨#[c]⟩ s.toks) := s8.extBut _ _ (Nat.ne_of_gt zlt) (s7.extBut _ _ (Nat.ne_of_gt zlt) (Heap.get?_push_size _ rfl))
  rw [hsz] at z8 T8
  refine wpAny_pure ⟨_, rfl, ?_⟩
  show Q (.ref g5.objs.size) _
  rw [hsz]
  have kk : ∀ c o, c ≠ z → c ≠ TO → c ≠ i1 → c ≠ i2 → s.heap.get? c = some o → g8.get? c = some o := fun c o c1 c2 c3 c4 e => up c o c1 (k5 c o c1 c2 c3 c4 e)
  refine hQ g8 _ _ ⟨z8, kk _ _ D.TIz D.TITO D.TIi1 D.TIi2 hTI, ⟨_, _, up _ _ D.TOz t5⟩, a5.at fun o e => up _ o D.i1z e, ?_, hl.at fun o e => kk _ o D.l1z D.l1TO D.l1i1 D.l1i2 e⟩ T8 kk
  obtain ⟨ty, e, o, e1, e2⟩ := b5
  exact ⟨ty, e, o, up _ _ D.i2z e1, e2⟩
end K_zs_item
section
variable {prog : Program} {w : World} {A : Around} {E : Value → Shared → Prop} {s : Shared}
theorem zs_item {z TI TO i1 i2 l : Addr} {k c : Nat} {xs : Array Value} {x : Str} {t : Tok} {v : Value} {Q : Value → Shared → Prop} (D : ZipApart z TI TO i1 i2 l l) (S : ZS s.heap z TI TO i1 i2 l xs x t k .none)
    (hx : xs[k]? = some v) (hc : x.cps[k]? = some c)
    (hQ : ∀ h' tk' t', ZS h' z TI TO i1 i2 l xs x t (k + 1) (rawInt s.heap.objs.size) → IsPair h' s.heap.objs.size v (.str ⟨#[c]⟩ t') →
      (∀ c o, c ≠ z → c ≠ TO → c ≠ i1 → c ≠ i2 → s.heap.get? c = some o → h'.get? c = some o) → Q (.ref s.heap.objs.size) { s with heap := h', toks := tk' }) :
    wpAny (model prog w) A (Builtin.«zip.__next__» ⟨[.ref z], []⟩) (fun fin s' => ∃ v, fin = .done (.ret v) ∧ Q v s') E s :=
  pickAll K_zs_item.ne (P := fun c => @K_zs_item.P (c.1) (c.2.1) (c.2.2.1) (c.2.2.2.1) (c.2.2.2.2.1) (c.2.2.2.2.2.1) (c.2.2.2.2.2.2.1) (c.2.2.2.2.2.2.2.1) (c.2.2.2.2.2.2.2.2.1) (c.2.2.2.2.2.2.2.2.2.1) (c.2.2.2.2.2.2.2.2.2.2.1) (c.2.2.2.2.2.2.2.2.2.2.2.1) (c.2.2.2.2.2.2.2.2.2.2.2.2.1) (c.2.2.2.2.2.2.2.2.2.2.2.2.2.1) (c.2.2.2.2.2.2.2.2.2.2.2.2.2.2.1) (c.2.2.2.2.2.2.2.2.2.2.2.2.2.2.2.1) (c.2.2.2.2.2.2.2.2.2.2.2.2.2.2.2.2.1) (c.2.2.2.2.2.2.2.2.2.2.2.2.2.2.2.2.2)) K_zs_item.core (prog, w, A, E, s, z, TI, TO, i1, i2, l, k, c, xs, x, t, v, Q) D S hx hc hQ
def K_zs_end.P (z : Addr) (TI : Addr) (TO : Addr) (i1 : Addr) (i2 : Addr) (l : Addr) (k : Nat) (xs : Array Value) (x : Str) (t : Tok) (Q : Fin → Shared → Prop) : Prop :=
  ∀ (hh : A.handled = none) (D : ZipApart z TI TO i1 i2 l l) (S : ZS s.heap z TI TO i1 i2 l xs x t k .none) (hend : xs[k]? = none ∨ x.cps[k]? = none) (hE : ∀ h' e tk', (∀ c o, c ≠ z → c ≠ TO → c ≠ i1 → c ≠ i2 → s.heap.get? c = some o → h'.get? c = some o) → (∃ o, h'.get? e = some o ∧ o.cls = .type "StopIteration") → E (.ref e) { s with heap := h', toks := tk' }), wpAny (model prog w) A (Builtin.«zip.__next__» ⟨[.ref z], []⟩) Q E s
end
namespace K_zs_end
theorem ne : Nonempty ((Program) × (World) × (Around) × (Value → Shared → Prop) × (Shared) × (Addr) × (Addr) × (Addr) × (Addr) × (Addr) × (Addr) × (Nat) × (Array Value) × (Str) × (Tok) × (Fin → Shared → Prop)) := ⟨(Classical.ofNonempty, w0, ⟨none, 0, none, none, 0⟩, Classical.ofNonempty, {}, Classical.ofNonempty, Classical.ofNonempty, Classical.ofNonempty, Classical.ofNonempty, Classical.ofNonempty, Classical.ofNonempty, Classical.ofNonempty, Classical.ofNonempty, Classical.ofNonempty, Classical.ofNonempty, Classical.ofNonempty)⟩
noncomputable def κ : (Program) × (World) × (Around) × (Value → Shared → Prop) × (Shared) × (Addr) × (Addr) × (Addr) × (Addr) × (Addr) × (Addr) × (Nat) × (Array Value) × (Str) × (Tok) × (Fin → Shared → Prop) := pick ne fun c => ¬ @P (c.1) (c.2.1) (c.2.2.1) (c.2.2.2.1) (c.2.2.2.2.1) (c.2.2.2.2.2.1) (c.2.2.2.2.2.2.1) (c.2.2.2.2.2.2.2.1) (c.2.2.2.2.2.2.2.2.1) (c.2.2.2.2.2.2.2.2.2.1) (c.2.2.2.2.2.2.2.2.2.2.1) (c.2.2.2.2.2.2.2.2.2.2.2.1) (c.2.2.2.2.2.2.2.2.2.2.2.2.1) (c.2.2.2.2.2.2.2.2.2.2.2.2.2.1) (c.2.2.2.2.2.2.2.2.2.2.2.2.2.2.1) (c.2.2.2.2.2.2.2.2.2.2.2.2.2.2.2)
noncomputable def prog : Program := κ.1
noncomputable def w : World := κ.2.1
noncomputable def A : Around := κ.2.2.1
noncomputable def E : Value → Shared → Prop := κ.2.2.2.1
noncomputable def s : Shared := κ.2.2.2.2.1
noncomputable def z : Addr := κ.2.2.2.2.2.1
noncomputable def TI : Addr := κ.2.2.2.2.2.2.1
noncomputable def TO : Addr := κ.2.2.2.2.2.2.2.1
noncomputable def i1 : Addr := κ.2.2.2.2.2.2.2.2.1
noncomputable def i2 : Addr := κ.2.2.2.2.2.2.2.2.2.1
noncomputable def l : Addr := κ.2.2.2.2.2.2.2.2.2.2.1
noncomputable def k : Nat := κ.2.2.2.2.2.2.2.2.2.2.2.1
noncomputable def xs : Array Value := κ.2.2.2.2.2.2.2.2.2.2.2.2.1
noncomputable def x : Str := κ.2.2.2.2.2.2.2.2.2.2.2.2.2.1
noncomputable def t : Tok := κ.2.2.2.2.2.2.2.2.2.2.2.2.2.2.1
noncomputable def Q : Fin → Shared → Prop := κ.2.2.2.2.2.2.2.2.2.2.2.2.2.2.2
theorem core : @P prog w A E s z TI TO i1 i2 l k xs x t Q := by
  intro hh D S hend hE
  obtain ⟨hz, hTI, ⟨a, b, hTO⟩, h1, h2, hl⟩ := S
  show wpAny _ _ (field (.ref z) 2 >>= _) _ _ _
  refine wpAny_bind (wpAny_field hz rfl (x := .bool false) rfl ?_)
  show wpAny _ _ (field (.ref z) 3 >>= _) _ _ _
  refine wpAny_bind (wpAny_field hz rfl (x := .ref TI) rfl ?_)
  refine wpAny_bind (wpAny_seqItems hTI rfl ?_)
  show wpAny _ _ (Builtin.SmallTypes.ownedTupleIsFree (.ref z) >>= _) _ _ _
  refine wpAny_bind ?_
  unfold Builtin.SmallTypes.ownedTupleIsFree
  refine wpAny_bind (wpAny_field hz rfl (x := .none) rfl (wpAny_pure ?_))
  simp only [if_true]
  refine wpAny_bind (wpAny_rule ?_)
  refine wpAny_bind (wpAny_field hz rfl (x := .ref TO) rfl ?_)
  refine wpAny_bind (wpAny_setField_rec hz (by simp) fun g1 z1 s1 => ?_)
  replace z1 : IsZip g1 z TI TO .ellipsis := z1
  refine wpAny_bind ?_
  simp only [List.zipIdx_cons, List.zipIdx_nil, List.forIn_cons, List.forIn_nil]
  refine wpAny_bind (wpAny_bind (wpAny_onRaise ?_))
  show wpAny _ _ (Builtin.SmallTypes.nextOf (.ref i1) >>= _) _ _ _
  cases hx : xs[k]? with
  | none =>
    refine wpAny_bind (wpAny_nextOf_list_end hh (h1.extBut s1.extBut D.i1z) (hl.extBut s1.extBut D.l1z) hx fun g2 e s2 he => ?_)
    obtain ⟨oe, hoe, hce⟩ := he
    have z2 : IsZip g2 z TI TO .ellipsis := s2 _ _ D.i1z.symm z1
    have ez : e ≠ z := fun x => by subst x; rw [z2] at hoe; cases hoe; simp at hce
    refine wpAny_setField_rec z2 (by simp) fun g3 _ s3 => hE g3 e _ (fun c o c1 _ c3 _ x => s3.extBut _ _ c1 (s2 _ _ c3 (s1.extBut _ _ c1 x))) ⟨oe, s3.extBut _ _ ez hoe, hce⟩
  | some v =>
    have hy : x.cps[k]? = none := by rcases hend with q | q; rw [hx] at q; cases q; exact q
    refine wpAny_bind (wpAny_nextOf_list_item (h1.extBut s1.extBut D.i1z) (hl.extBut s1.extBut D.l1z) hx fun g2 _ s2 => wpAny_pure ?_)
    have t2 : IsPair g2 TO a b := s2.extBut _ _ D.TOi1 (s1.extBut _ _ D.TOz hTO)
    refine wpAny_bind (wpAny_seqItems t2 rfl ?_)
    refine wpAny_bind (wpAny_updateSeq_pair t2 fun g3 t3 s3 => ?_)
    refine wpAny_bind (wpAny_letGo (wpAny_pure ?_))
    refine wpAny_bind (wpAny_bind (wpAny_onRaise ?_))
    show wpAny _ _ (Builtin.SmallTypes.nextOf (.ref i2) >>= _) _ _ _
    refine wpAny_bind (next_str_end hh (((h2.ext s1.extBut D.i2z).ext s2.extBut D.i12.symm).ext s3.extBut D.TOi2.symm) hy fun g4 e s4 he => ?_)
    obtain ⟨oe, hoe, hce⟩ := he
    have z4 : IsZip g4 z TI TO .ellipsis := s4 _ _ D.i2z.symm (s3.extBut _ _ D.TOz.symm (s2.extBut _ _ D.i1z.symm z1))
    have ez : e ≠ z := fun x => by subst x; rw [z4] at hoe; cases hoe; simp at hce
    refine wpAny_setField_rec z4 (by simp) fun g5 _ s5 => hE g5 e _ (fun c o c1 c2 c3 c4 x => s5.extBut _ _ c1 (s4 _ _ c4 (s3.extBut _ _ c2 (s2.extBut _ _ c3 (s1.extBut _ _ c1 x))))) ⟨oe, s5.extBut _ _ ez hoe, hce⟩
end K_zs_end
section
variable {prog : Program} {w : World} {A : Around} {E : Value → Shared → Prop} {s : Shared}
theorem zs_end {z TI TO i1 i2 l : Addr} {k : Nat} {xs : Array Value} {x : Str} {t : Tok} {Q : Fin → Shared → Prop} (hh : A.handled = none) (D : ZipApart z TI TO i1 i2 l l) (S : ZS s.heap z TI TO i1 i2 l xs x t k .none)
    (hend : xs[k]? = none ∨ x.cps[k]? = none)
    (hE : ∀ h' e tk', (∀ c o, c ≠ z → c ≠ TO → c ≠ i1 → c ≠ i2 → s.heap.get? c = some o → h'.get? c = some o) → (∃ o, h'.get? e = some o ∧ o.cls = .type "StopIteration") → E (.ref e) { s with heap := h', toks := tk' }) :
    wpAny (model prog w) A (Builtin.«zip.__next__» ⟨[.ref z], []⟩) Q E s :=
  pickAll K_zs_end.ne (P := fun c => @K_zs_end.P (c.1) (c.2.1) (c.2.2.1) (c.2.2.2.1) (c.2.2.2.2.1) (c.2.2.2.2.2.1) (c.2.2.2.2.2.2.1) (c.2.2.2.2.2.2.2.1) (c.2.2.2.2.2.2.2.2.1) (c.2.2.2.2.2.2.2.2.2.1) (c.2.2.2.2.2.2.2.2.2.2.1) (c.2.2.2.2.2.2.2.2.2.2.2.1) (c.2.2.2.2.2.2.2.2.2.2.2.2.1) (c.2.2.2.2.2.2.2.2.2.2.2.2.2.1) (c.2.2.2.2.2.2.2.2.2.2.2.2.2.2.1) (c.2.2.2.2.2.2.2.2.2.2.2.2.2.2.2)) K_zs_end.core (prog, w, A, E, s, z, TI, TO, i1, i2, l, k, xs, x, t, Q) hh D S hend hE
theorem zs_pyNext {z TI TO i1 i2 l : Addr} {k c : Nat} {xs : Array Value} {x : Str} {t : Tok} {v : Value} {Q : Option Value → Shared → Prop} (D : ZipApart z TI TO i1 i2 l l) (S : ZS s.heap z TI TO i1 i2 l xs x t k .none)
    (hx : xs[k]? = some v) (hc : x.cps[k]? = some c)
    (hQ : ∀ h' tk' t', ZS h' z TI TO i1 i2 l xs x t (k + 1) (rawInt s.heap.objs.size) → IsPair h' s.heap.objs.size v (.str ⟨#[c]⟩ t') →
      (∀ c o, c ≠ z → c ≠ TO → c ≠ i1 → c ≠ i2 → s.heap.get? c = some o → h'.get? c = some o) → Q (some (.ref s.heap.objs.size)) { s with heap := h', toks := tk' }) :
    wpAny (model prog w) A (pyNext (.ref z)) Q E s := by
  have hT : s.TypeIs (.ref z) "zip" := ⟨_, S.z, rfl⟩
  unfold pyNext
  exact wpAny_bind (wpAny_attempt (wpAny_callSpecial?_slot (name := Str.ofString "__next__") hT F.slot_zip_next
    (wpAny_call_entry F.slot_zip_next hT F.entry_zip_next (zs_item D S hx hc fun h' tk' t' a1 a2 a3 => wpAny_pure (hQ h' tk' t' a1 a2 a3)) (F.args_zip_next_1 _))))
theorem zs_pyNext_end {z TI TO i1 i2 l : Addr} {k : Nat} {xs : Array Value} {x : Str} {t : Tok} {Q : Option Value → Shared → Prop} (hh : A.handled = none) (D : ZipApart z TI TO i1 i2 l l) (S : ZS s.heap z TI TO i1 i2 l xs x t k .none)
    (hend : xs[k]? = none ∨ x.cps[k]? = none)
    (hQ : ∀ h' tk', (∀ c o, c ≠ z → c ≠ TO → c ≠ i1 → c ≠ i2 → s.heap.get? c = some o → h'.get? c = some o) → Q none { s with heap := h', toks := tk' }) : wpAny (model prog w) A (pyNext (.ref z)) Q E s := by
  have hT : s.TypeIs (.ref z) "zip" := ⟨_, S.z, rfl⟩
  unfold pyNext
  refine wpAny_bind (wpAny_attempt (wpAny_callSpecial?_slot (name := Str.ofString "__next__") hT F.slot_zip_next
    (wpAny_call_entry F.slot_zip_next hT F.entry_zip_next (zs_end hh D S hend fun h' e tk' hk he => ?_) (F.args_zip_next_1 _))))
  obtain ⟨o, ho, hc⟩ := he
  refine wpAny_bind (wpAny_isInstance (T := "StopIteration") (b := true) ⟨o, ho, hc⟩ isSubtype_stop ?_)
  exact wpAny_pure (hQ _ _ hk)
theorem zs_go {elts : List PySem.Expr} {x1} {pos : Pos} {z TI TO i1 i2 l T : Addr} {k : Nat} {xs : Array Value} {x : Str} {t : Tok} {Q : Unit → Shared → Prop} (D : ZipApart z TI TO i1 i2 l l) (S : ZS s.heap z TI TO i1 i2 l xs x t k (rawInt T))
    (hQ : ∀ h', ZS h' z TI TO i1 i2 l xs x t k .none → Heap.SameBut z s.heap h' → Q () { s with heap := h' }) :
    wpAny (model prog w) A (letOwnedTupleGo (.Tuple elts x1 pos) (.ref z) (.ref T)) Q E s := by
  obtain ⟨hz, hTI, ⟨a, b, hTO⟩, h1, h2, hl⟩ := S
  exact wpAny_letOwnedTupleGo_zip hz fun h' hz' hs => hQ h' ⟨hz', hs.extBut _ _ D.TIz hTI, ⟨a, b, hs.extBut _ _ D.TOz hTO⟩, h1.extBut hs.extBut D.i1z, h2.ext hs.extBut D.i2z, hl.extBut hs.extBut D.l1z⟩ hs
end

abbrev zg1 (h : Heap) (l : Addr) : Heap := h.push { cls := .type "list_iterator", data := .fields #[.ref l, .int 0 0] }
abbrev zg2 (h : Heap) (l : Addr) (x : Str) (t : Tok) : Heap := (zg1 h l).push { cls := .type (strIterType x), data := .fields #[.str x t, .int 0 0] }
abbrev zg3 (h : Heap) (l : Addr) (x : Str) (t : Tok) : Heap := (zg2 h l x t).push { cls := .type "tuple", data := .seq #[.ref h.objs.size, .ref (zg1 h l).objs.size] }
abbrev zg4 (h : Heap) (l : Addr) (x : Str) (t : Tok) : Heap := (zg3 h l x t).push { cls := .type "tuple", data := .seq #[.none, .none] }
abbrev zg5 (h : Heap) (l : Addr) (x : Str) (t : Tok) : Heap := (zg4 h l x t).push { cls := .type "zip", data := .fields #[.none, .bool false, .bool false, .ref (zg2 h l x t).objs.size, .ref (zg3 h l x t).objs.size] }
theorem zs_new (l : Addr) (x : Str) (t : Tok) (xs : Array Value) :
    Meets (Builtin.«zip.__new__» ⟨[.type "zip", .ref l, .str x t], []⟩) (fun _ R s => s.heap.IsList l xs ∧
      R (.ok (.ret (.ref (zg4 s.heap l x t).objs.size))) { s with heap := zg5 s.heap l x t }) :=
  .of_wp fun prog w A R s h => by
    obtain ⟨hp, g, d, tk, os⟩ := s; obtain ⟨hl1, h⟩ := h
    have hsub := sub_zip
    have hL1 : Heap.IsList (Shared.heap ⟨hp, g, d, tk, os⟩) l xs := hl1
    wp_walk using wpAny_pyIter_list hL1, wpAny_pyIter_strU
    exact ⟨_, rfl, h⟩
end Mine
end
section
open PySem PySem.W PyProof.Rows PySem.Calls
open PyProof.Rows.LCg (NsObj ns_obj lst lst_snoc SrcAt)
set_option Elab.async false
set_option maxRecDepth 100000
set_option maxHeartbeats 4000000
namespace Mine
section
variable {prog : Program} {w : World} {A : Around} {E : Value → Shared → Prop} {s : Shared}
theorem call_zip_ls {l : Addr} {xs : Array Value} {x : Str} {t : Tok} {Q : Value → Shared → Prop} (hl : s.heap.IsList l xs)
    (h : ∀ h' I, I = s.heap.objs.size → ZipApart (I + 4) (I + 2) (I + 3) I (I + 1) l l → ZS h' (I + 4) (I + 2) (I + 3) I (I + 1) l xs x t 0 .none → Kp s.heap h' → Q (.ref (I + 4)) { s with heap := h' }) :
    wpAny (model prog w) A (call (.type "zip") [.ref l, .str x t]) Q E s := by
  refine callType_new F.called_zip (by decide) (F.typeCall_zip_2 _ _) (F.newCall_zip_2 _ _) (fun obj => F.args_object_init_3 obj _ _) F.entry_zip_new
    (zs_new l x t xs) ⟨hl, ?_⟩
  have z1 : (zg1 s.heap l).objs.size = s.heap.objs.size + 1 := Heap.size_push ..
  have z2 : (zg2 s.heap l x t).objs.size = s.heap.objs.size + 2 := by rw [Heap.size_push, z1]
  have z3 : (zg3 s.heap l x t).objs.size = s.heap.objs.size + 3 := by rw [Heap.size_push, z2]
  have z4 : (zg4 s.heap l x t).objs.size = s.heap.objs.size + 4 := by rw [Heap.size_push, z3]
  have g5 : (zg5 s.heap l x t).get? (zg4 s.heap l x t).objs.size = some _ := Heap.get?_push_size _ rfl
  have g4 : (zg5 s.heap l x t).get? (zg3 s.heap l x t).objs.size = some _ := Heap.get?_push_of_some _ (Heap.get?_push_size _ rfl)
  have g3 : (zg5 s.heap l x t).get? (zg2 s.heap l x t).objs.size = some _ := Heap.get?_push_of_some _ (Heap.get?_push_of_some _ (Heap.get?_push_size _ rfl))
  have g2 : (zg5 s.heap l x t).get? (zg1 s.heap l).objs.size = some _ := Heap.get?_push_of_some _ (Heap.get?_push_of_some _ (Heap.get?_push_of_some _ (Heap.get?_push_size _ rfl)))
  have g1 : (zg5 s.heap l x t).get? s.heap.objs.size = some _ := Heap.get?_push_of_some _ (Heap.get?_push_of_some _ (Heap.get?_push_of_some _ (Heap.get?_push_of_some _ (Heap.get?_push_size _ rfl))))
  show _ ∧ _
  rw [z2, z3, z4] at g5
  rw [z1, z2] at g3
  rw [z3] at g4
  rw [z1] at g2
  rw [z4]
  have kk : Kp s.heap (zg5 s.heap l x t) := fun c o e => Heap.get?_push_of_some _ (Heap.get?_push_of_some _ (Heap.get?_push_of_some _ (Heap.get?_push_of_some _ (Heap.get?_push_of_some _ e))))
  have hlt : l < s.heap.objs.size := by obtain ⟨_, e, _⟩ := hl; exact Heap.lt_size e
  refine ⟨⟨_, g5, rfl⟩, h _ _ rfl (ktu_apart _ _ _ hlt hlt) ⟨g5, g3, ⟨_, _, g4⟩, ⟨_, g1, rfl, rfl⟩, .of ⟨_, g2, rfl, rfl⟩, hl.at fun o e => kk _ o e⟩ kk⟩
end

/-- the zip's own objects -/
def ZIts (z TI TO i1 i2 l : Addr) (x : Str) (t : Tok) (k : Nat) (its : List (Addr × Obj)) : Prop :=
  ∃ a b o1 o2 ty, its = [(z, zObj TI TO), (TO, pObj a b), (i1, o1), (i2, o2), (TI, pObj (.ref i1) (.ref i2))] ∧ o1.cls = .type "list_iterator" ∧ o1.data = .fields #[.ref l, .int k 0] ∧
    (ty = "str_ascii_iterator" ∨ ty = "str_iterator") ∧ o2.cls = .type ty ∧ o2.data = .fields #[.str x t, .int k 0]

section
variable {prog : Program} {w : World} {A : Around} {E : Value → Shared → Prop} {s : Shared} {env : Env} {h₀ : Heap} {L : Addr} {m : Str → Option Value}

theorem ZIts.zs {z TI TO i1 i2 l : Addr} {x : Str} {t : Tok} {k : Nat} {its news : List (Addr × Obj)} {h : Heap} {xs : Array Value} (Z : ZIts z TI TO i1 i2 l x t k its) (N : News h₀ L h (its ++ news)) (hl : h.IsList l xs) :
    ZS h z TI TO i1 i2 l xs x t k .none := by
  obtain ⟨a, b, o1, o2, ty, rfl, c1, d1, hty, c2, d2⟩ := Z
  exact ⟨(N (z, zObj TI TO) (by k_mem)).1, (N (TI, pObj (.ref i1) (.ref i2)) (by k_mem)).1, ⟨a, b, (N (TO, pObj a b) (by k_mem)).1⟩, ⟨o1, (N (i1, o1) (by k_mem)).1, c1, d1⟩, ⟨ty, hty, o2, (N (i2, o2) (by k_mem)).1, c2, d2⟩, hl⟩
theorem ZS.its {z TI TO i1 i2 l : Addr} {x : Str} {t : Tok} {k : Nat} {h : Heap} {xs : Array Value} (S : ZS h z TI TO i1 i2 l xs x t k .none) :
    ∃ its, ZIts z TI TO i1 i2 l x t k its ∧ (∀ p ∈ its, h.get? p.1 = some p.2) := by
  obtain ⟨hz, hTI, ⟨a, b, hTO⟩, ⟨o1, e1, c1, d1⟩, ⟨ty, hty, o2, e2, c2, d2⟩, hl⟩ := S
  refine ⟨_, ⟨a, b, o1, o2, ty, rfl, c1, d1, hty, c2, d2⟩, fun p hp => ?_⟩
  simp only [List.mem_cons, List.not_mem_nil, or_false] at hp
  rcases hp with rfl | rfl | rfl | rfl | rfl
  · exact hz
  · exact hTO
  · exact e1
  · exact e2
  · exact hTI
theorem ZIts.addr {z TI TO i1 i2 l : Addr} {x : Str} {t : Tok} {k : Nat} {its : List (Addr × Obj)} (Z : ZIts z TI TO i1 i2 l x t k its) : its.map (·.1) = [z, TO, i1, i2, TI] := by
  obtain ⟨a, b, o1, o2, ty, rfl, _⟩ := Z
  rfl

def ZEnd (h₀ : Heap) (L : Addr) (m : Str → Option Value) (C D : Addr) (all : List (Addr × Obj)) (ys : List Value) (s₁ : Shared) (P : Prop) (s' : Shared) : Prop :=
  ∃ h' tk' oC', s' = { s₁ with heap := h', toks := tk' } ∧ CS h₀ L m C oC' D ys all h' ∧ P

/-- a comprehension over a zip of a list and a string: the ledger beside stays -/
structure ZPkg (prog : Program) (w : World) (A : Around) (h₀ : Heap) (L : Addr) (m : Str → Option Value) (env : Env) (scope : Scope) (cl : List (Str × Addr)) (elt target c : Expr) (s₁ : Shared) (l : Addr) (vs : List Value) (x : Str) (news : List (Addr × Obj))
    (J : Nat → List Value → Prop) : Prop where
  F : Fr h₀ L s₁.heap m
  N : News h₀ L s₁.heap news
  size : vs.length ≤ sizeLine
  start : J 0 []
  le : ∀ i ys, J i ys → ys.length ≤ i
  src : h₀.IsList l vs.toArray
  turn : ∀ i v a ys C oC D all h tk T t, vs[i]? = some v → x.cps[i]? = some a → J i ys → (∀ p ∈ news, p ∈ all) → CS h₀ L m C oC D ys all h → IsTup h T #[v, .str ⟨#[a]⟩ t] →
    wpAny (model prog w) A (assign target (compEnvC scope cl C env) (.ref T)) (fun _ s₃ =>
      wpAny (model prog w) A (isTrue c (compEnvC scope cl C env) (eval c (compEnvC scope cl C env))) (fun ok s₄ => if ok = true then
        wpAny (model prog w) A (eval elt (compEnvC scope cl C env)) (fun y s₅ => ZEnd h₀ L m C D all ys s₁ (J (i + 1) (ys ++ [y])) s₅) FF s₄
        else ZEnd h₀ L m C D all ys s₁ (J (i + 1) ys) s₄) FF s₃) FF { s₁ with heap := h, toks := tk }

def K_ZPkg_run0.Pκ (elts : List PySem.Expr) (x1 : Nat) (tp : Pos) (elt : PySem.Expr) (c : PySem.Expr) (scope : Scope) (cl : List (Str × Addr)) (s₁ : Shared) (l : Addr) (vs : List Value) (x : Str) (t : Tok) (news : List (Addr × Obj)) (J : Nat → List Value → Prop) (Q : Value → Shared → Prop) : Prop :=
  ∀ (hh : A.handled = none) (P : ZPkg prog w A h₀ L m env scope cl elt (.Tuple elts x1 tp) c s₁ l vs x news J) (k : ∀ it g nf n J', CPkg prog w A h₀ L m env scope cl elt (.Tuple elts x1 tp) c (fun ys nf => J (min vs.length x.cps.size) ys ∧ ∀ p ∈ news, p ∈ nf) it { s₁ with heap := g } nf n J' → Q it { s₁ with heap := g }), wpAny (model prog w) A (call (.type "zip") [.ref l, .str x t]) (fun xv s' => wpAny (model prog w) A (pyIter xv) Q E s') E s₁
end
namespace K_ZPkg_run0
theorem ne : Nonempty ((Program) × (World) × (Around) × (Value → Shared → Prop) × (Env) × (Heap) × (Addr) × (Str → Option Value) × (List PySem.Expr) × (Nat) × (Pos) × (PySem.Expr) × (PySem.Expr) × (Scope) × (List (Str × Addr)) × (Shared) × (Addr) × (List Value) × (Str) × (Tok) × (List (Addr × Obj)) × (Nat → List Value → Prop) × (Value → Shared → Prop)) := ⟨(Classical.ofNonempty, w0, ⟨none, 0, none, none, 0⟩, Classical.ofNonempty, Classical.ofNonempty, Classical.ofNonempty, Classical.ofNonempty, Classical.ofNonempty, Classical.ofNonempty, Classical.ofNonempty, Classical.ofNonempty, Classical.ofNonempty, Classical.ofNonempty, Classical.ofNonempty, Classical.ofNonempty, {}, Classical.ofNonempty, Classical.ofNonempty, Classical.ofNonempty, Classical.ofNonempty, Classical.ofNonempty, Classical.ofNonempty, Classical.ofNonempty)⟩
noncomputable def κ : (Program) × (World) × (Around) × (Value → Shared → Prop) × (Env) × (Heap) × (Addr) × (Str → Option Value) × (List PySem.Expr) × (Nat) × (Pos) × (PySem.Expr) × (PySem.Expr) × (Scope) × (List (Str × Addr)) × (Shared) × (Addr) × (List Value) × (Str) × (Tok) × (List (Addr × Obj)) × (Nat → List Value → Prop) × (Value → Shared → Prop) := pick ne fun c => ¬ @Pκ (c.1) (c.2.1) (c.2.2.1) (c.2.2.2.1) (c.2.2.2.2.1) (c.2.2.2.2.2.1) (c.2.2.2.2.2.2.1) (c.2.2.2.2.2.2.2.1) (c.2.2.2.2.2.2.2.2.1) (c.2.2.2.2.2.2.2.2.2.1) (c.2.2.2.2.2.2.2.2.2.2.1) (c.2.2.2.2.2.2.2.2.2.2.2.1) (c.2.2.2.2.2.2.2.2.2.2.2.2.1) (c.2.2.2.2.2.2.2.2.2.2.2.2.2.1) (c.2.2.2.2.2.2.2.2.2.2.2.2.2.2.1) (c.2.2.2.2.2.2.2.2.2.2.2.2.2.2.2.1) (c.2.2.2.2.2.2.2.2.2.2.2.2.2.2.2.2.1) (c.2.2.2.2.2.2.2.2.2.2.2.2.2.2.2.2.2.1) (c.2.2.2.2.2.2.2.2.2.2.2.2.2.2.2.2.2.2.1) (c.2.2.2.2.2.2.2.2.2.2.2.2.2.2.2.2.2.2.2.1) (c.2.2.2.2.2.2.2.2.2.2.2.2.2.2.2.2.2.2.2.2.1) (c.2.2.2.2.2.2.2.2.2.2.2.2.2.2.2.2.2.2.2.2.2.1) (c.2.2.2.2.2.2.2.2.2.2.2.2.2.2.2.2.2.2.2.2.2.2)
noncomputable def prog : Program := κ.1
noncomputable def w : World := κ.2.1
noncomputable def A : Around := κ.2.2.1
noncomputable def E : Value → Shared → Prop := κ.2.2.2.1
noncomputable def env : Env := κ.2.2.2.2.1
noncomputable def h₀ : Heap := κ.2.2.2.2.2.1
noncomputable def L : Addr := κ.2.2.2.2.2.2.1
noncomputable def m : Str → Option Value := κ.2.2.2.2.2.2.2.1
noncomputable def elts : List PySem.Expr := κ.2.2.2.2.2.2.2.2.1
noncomputable def x1 : Nat := κ.2.2.2.2.2.2.2.2.2.1
noncomputable def tp : Pos := κ.2.2.2.2.2.2.2.2.2.2.1
noncomputable def elt : PySem.Expr := κ.2.2.2.2.2.2.2.2.2.2.2.1
noncomputable def c : PySem.Expr := κ.2.2.2.2.2.2.2.2.2.2.2.2.1
noncomputable def scope : Scope := κ.2.2.2.2.2.2.2.2.2.2.2.2.2.1
noncomputable def cl : List (Str × Addr) := κ.2.2.2.2.2.2.2.2.2.2.2.2.2.2.1
noncomputable def s₁ : Shared := κ.2.2.2.2.2.2.2.2.2.2.2.2.2.2.2.1
noncomputable def l : Addr := κ.2.2.2.2.2.2.2.2.2.2.2.2.2.2.2.2.1
noncomputable def vs : List Value := κ.2.2.2.2.2.2.2.2.2.2.2.2.2.2.2.2.2.1
noncomputable def x : Str := κ.2.2.2.2.2.2.2.2.2.2.2.2.2.2.2.2.2.2.1
noncomputable def t : Tok := κ.2.2.2.2.2.2.2.2.2.2.2.2.2.2.2.2.2.2.2.1
noncomputable def news : List (Addr × Obj) := κ.2.2.2.2.2.2.2.2.2.2.2.2.2.2.2.2.2.2.2.2.1
noncomputable def J : Nat → List Value → Prop := κ.2.2.2.2.2.2.2.2.2.2.2.2.2.2.2.2.2.2.2.2.2.1
noncomputable def Q : Value → Shared → Prop := κ.2.2.2.2.2.2.2.2.2.2.2.2.2.2.2.2.2.2.2.2.2.2
theorem core : @Pκ prog w A E env h₀ L m elts x1 tp elt c scope cl s₁ l vs x t news J Q := by
  intro hh P k
  obtain ⟨F, N, hvs, hJ, hle, hsrc, turn⟩ := P
  have hl0 : s₁.heap.IsList l vs.toArray := islist_keeps hsrc F.keep
  refine call_zip_ls hl0 fun g I hI D S kk => ?_
  refine wpAny_pyIter_zip S.z ?_
  obtain ⟨its, hits, hget⟩ := S.its
  have hLI : L < I := hI ▸ F.ns.lt
  have new : ∀ b, I ≤ b → h₀.get? b = none := fun b hb => by
    cases e : h₀.get? b with
    | none => rfl
    | some o => exact absurd (Heap.lt_size (F.keep b o e)) (Nat.not_lt.mpr (hI ▸ hb))
  have hitsI : ∀ p ∈ its, I ≤ p.1 := fun p hp => by
    have : p.1 ∈ its.map (·.1) := List.mem_map.mpr ⟨p, hp, rfl⟩
    rw [hits.addr] at this
    simp only [List.mem_cons, List.not_mem_nil, or_false] at this
    show (I : Nat) ≤ p.1
    rcases this with e | e | e | e | e <;> (rw [e]; lia)
  have newsI : ∀ p ∈ news, p.1 < I := fun p hp => hI ▸ Heap.lt_size (N p hp).1
  refine k _ _ (its ++ news) (vs.length + 1) (fun n ys nf => ∃ i its, n = vs.length + 1 - i ∧ i ≤ min vs.length x.cps.size ∧ nf = its ++ news ∧ ZIts (I + 4) (I + 2) (I + 3) I (I + 1) l x t i its ∧ J i ys)
    ⟨fr_after F kk, fun p hp => ?_, ⟨0, its, rfl, Nat.zero_le _, rfl, hits, hJ⟩, ?_, ?_, ?_⟩
  · rcases List.mem_append.mp hp with hp | hp
    · exact ⟨hget p hp, Nat.ne_of_gt (Nat.lt_of_lt_of_le hLI (hitsI p hp)), new _ (hitsI p hp)⟩
    · exact ⟨kk _ _ (N p hp).1, (N p hp).2⟩
  · intro n ys nf hq1
    (try k_fold)
    obtain ⟨i, its, rfl, hi, rfl, _, hJ'⟩ := hq1
    exact Nat.le_trans (Nat.le_trans (hle _ _ hJ') (Nat.le_trans hi (Nat.min_le_left _ _))) hvs
  · intro h' tk' N'
    obtain ⟨a, b, o1, o2, ty, rfl, _⟩ := hits
    exact wpAny_pyIter_zip (N' (I + 4, zObj (I + 2) (I + 3)) (by first | k_mem | simp)).1 ⟨rfl, rfl⟩
  · intro n ys nf C oC Dd h' tk' hq2 cs
    (try k_fold)
    obtain ⟨i, its, rfl, hi, rfl, hits, hJ'⟩ := hq2
    have Nz : News h₀ L h' (its ++ news) := fun p hp => cs.N p (List.mem_cons_of_mem _ (List.mem_cons_of_mem _ hp))
    have hl' : h'.IsList l vs.toArray := islist_keeps hsrc cs.F.keep
    have S' := hits.zs Nz hl'
    have hz : ∀ b, b ∈ [I + 4, I + 3, I, I + 1, I + 2] → b ≠ L ∧ h₀.get? b = none ∧ b ≠ C ∧ b ≠ Dd := fun b hb => by
      rw [← hits.addr] at hb
      obtain ⟨p, hp, rfl⟩ := List.mem_map.mp hb
      have hp' := List.mem_append_left news hp
      exact ⟨(Nz p hp').2.1, (Nz p hp').2.2, (cs.off p hp').1, (cs.off p hp').2⟩
    have a1 := hz (I + 4) (by first | k_mem | simp)
    have a2 := hz (I + 3) (by first | k_mem | simp)
    have a3 := hz I (by first | k_mem | simp)
    have a4 := hz (I + 1) (by first | k_mem | simp)
    have newsZ : ∀ p ∈ news, p.1 ≠ I + 4 ∧ p.1 ≠ I + 3 ∧ p.1 ≠ I ∧ p.1 ≠ I + 1 := fun p hp => by
      have q : @LT.lt Nat _ p.1 I := newsI p hp
      exact ⟨Nat.ne_of_lt (by lia), Nat.ne_of_lt (by lia), Nat.ne_of_lt (by lia), Nat.ne_of_lt (by lia)⟩
    have zlt : I + 4 < h'.objs.size := Heap.lt_size S'.z
    by_cases hlt : i < min vs.length x.cps.size
    · have hv : i < vs.length := Nat.lt_of_lt_of_le hlt (Nat.min_le_left _ _)
      have hx : i < x.cps.size := Nat.lt_of_lt_of_le hlt (Nat.min_le_right _ _)
      refine zs_pyNext D S' (v := vs[i]) (c := x.cps[i]) (by first | exact getElem?_pos _ _ hv | simp [hv]) (by first | exact getElem?_pos _ _ hx | simp [hx]) fun h2 tk2 t2 S2 hT2 k2 => ?_
      refine zs_go D S2 fun h3 S3 s3 => ?_
      have k3 : ∀ c o, c ≠ I + 4 → c ≠ I + 3 → c ≠ I → c ≠ I + 1 → h'.get? c = some o → h3.get? c = some o := fun c o c1 c2 c3 c4 e => s3.extBut _ _ c1 (k2 c o c1 c2 c3 c4 e)
      have hT3 : IsTup h3 h'.objs.size #[vs[i], .str ⟨#[x.cps[i]]⟩ t2] := ⟨_, s3.extBut _ _ (Nat.ne_of_gt zlt) hT2, rfl, _, rfl⟩
      obtain ⟨its3, hits3, hget3⟩ := S3.its
      have F3 : Fr h₀ L h3 m := ⟨cs.F.ns.at' fun o e => k3 _ o (Ne.symm a1.1) (Ne.symm a2.1) (Ne.symm a3.1) (Ne.symm a4.1) e,
        fun b o e => k3 b o (fun q => by rw [q, a1.2.1] at e; cases e) (fun q => by rw [q, a2.2.1] at e; cases e) (fun q => by rw [q, a3.2.1] at e; cases e) (fun q => by rw [q, a4.2.1] at e; cases e) (cs.F.keep b o e), cs.F.above⟩
      have hz3 : ∀ p ∈ its3, p.1 ≠ L ∧ h₀.get? p.1 = none ∧ p.1 ≠ C ∧ p.1 ≠ Dd := fun p hp => hz _ (by rw [← hits3.addr]; exact List.mem_map.mpr ⟨p, hp, rfl⟩)
      have cs3 : CS h₀ L m C oC Dd ys (its3 ++ news) h3 := by
        refine ⟨F3, fun p hp => ?_, fun p hp => ?_, cs.cd, cs.ns⟩
        · rcases List.mem_cons.mp hp with rfl | hp
          · have q := cs.N _ List.mem_cons_self
            exact ⟨k3 _ _ (Ne.symm a1.2.2.1) (Ne.symm a2.2.2.1) (Ne.symm a3.2.2.1) (Ne.symm a4.2.2.1) q.1, q.2⟩
          · rcases List.mem_cons.mp hp with rfl | hp
            · have q := cs.N _ (List.mem_cons_of_mem _ List.mem_cons_self)
              exact ⟨k3 _ _ (Ne.symm a1.2.2.2) (Ne.symm a2.2.2.2) (Ne.symm a3.2.2.2) (Ne.symm a4.2.2.2) q.1, q.2⟩
            · rcases List.mem_append.mp hp with hp | hp
              · exact ⟨hget3 p hp, (hz3 p hp).1, (hz3 p hp).2.1⟩
              · have q := Nz p (List.mem_append_right _ hp)
                have r := newsZ p hp
                exact ⟨k3 _ _ r.1 r.2.1 r.2.2.1 r.2.2.2 q.1, q.2⟩
        · rcases List.mem_append.mp hp with hp | hp
          · exact ⟨(hz3 p hp).2.2.1, (hz3 p hp).2.2.2⟩
          · exact cs.off p (List.mem_append_right _ hp)
      refine wpAny_mono (turn i vs[i] x.cps[i] ys C oC Dd (its3 ++ news) h3 tk2 _ t2 (by first | exact getElem?_pos _ _ hv | simp [hv]) (by first | exact getElem?_pos _ _ hx | simp [hx]) hJ' (fun p hp => List.mem_append_right _ hp) cs3 hT3) (fun _ s4 h4 => ?_) fun _ _ e => e
      refine wpAny_mono h4 (fun ok s5 h5 => ?_) fun _ _ e => e
      cases ok with
      | false =>
        simp only [Bool.false_eq_true, if_false] at h5 ⊢
        obtain ⟨h6, tk6, oC6, rfl, cs6, hJ6⟩ := h5
        exact ⟨h6, tk6, oC6, _, rfl, cs6, vs.length + 1 - (i + 1), decK (Nat.le_of_succ_le (by assumption)) (by decide), i + 1, its3, rfl, hlt, rfl, hits3, hJ6⟩
      | true =>
        simp only [if_true] at h5 ⊢
        refine wpAny_mono h5 (fun y s6 h6 => ?_) fun _ _ e => e
        obtain ⟨h6, tk6, oC6, rfl, cs6, hJ6⟩ := h6
        exact ⟨h6, tk6, oC6, _, rfl, cs6, vs.length + 1 - (i + 1), decK (Nat.le_of_succ_le (by assumption)) (by decide), i + 1, its3, rfl, hlt, rfl, hits3, hJ6⟩
    · obtain rfl : i = min vs.length x.cps.size := Nat.le_antisymm hi (Nat.not_lt.mp hlt)
      have hend : vs.toArray[min vs.length x.cps.size]? = none ∨ x.cps[min vs.length x.cps.size]? = none := by
        rcases Nat.le_total vs.length x.cps.size with q | q
        · exact .inl (by rw [Nat.min_eq_left q]; simp)
        · exact .inr (by rw [Nat.min_eq_right q]; simp)
      refine zs_pyNext_end hh D S' hend fun h3 tk3 k3 => ?_
      have F3 : Fr h₀ L h3 m := ⟨cs.F.ns.at' fun o e => k3 _ o (Ne.symm a1.1) (Ne.symm a2.1) (Ne.symm a3.1) (Ne.symm a4.1) e,
        fun b o e => k3 b o (fun q => by rw [q, a1.2.1] at e; cases e) (fun q => by rw [q, a2.2.1] at e; cases e) (fun q => by rw [q, a3.2.1] at e; cases e) (fun q => by rw [q, a4.2.1] at e; cases e) (cs.F.keep b o e), cs.F.above⟩
      refine ⟨h3, tk3, oC, news, rfl, ⟨F3, fun p hp => ?_, fun p hp => cs.off p (List.mem_append_right _ hp), cs.cd, cs.ns⟩, hJ', fun _ hp => hp⟩
      rcases List.mem_cons.mp hp with rfl | hp
      · have q := cs.N _ List.mem_cons_self
        exact ⟨k3 _ _ (Ne.symm a1.2.2.1) (Ne.symm a2.2.2.1) (Ne.symm a3.2.2.1) (Ne.symm a4.2.2.1) q.1, q.2⟩
      · rcases List.mem_cons.mp hp with rfl | hp
        · have q := cs.N _ (List.mem_cons_of_mem _ List.mem_cons_self)
          exact ⟨k3 _ _ (Ne.symm a1.2.2.2) (Ne.symm a2.2.2.2) (Ne.symm a3.2.2.2) (Ne.symm a4.2.2.2) q.1, q.2⟩
        · have q := Nz p (List.mem_append_right _ hp)
          have r := newsZ p hp
          exact ⟨k3 _ _ r.1 r.2.1 r.2.2.1 r.2.2.2 q.1, q.2⟩
end K_ZPkg_run0
section
variable {prog : Program} {w : World} {A : Around} {E : Value → Shared → Prop} {s : Shared} {env : Env} {h₀ : Heap} {L : Addr} {m : Str → Option Value}
theorem ZPkg.run0 {elts : List PySem.Expr} {x1 : Nat} {tp : Pos} {elt c : PySem.Expr} {scope : Scope} {cl : List (Str × Addr)} {s₁ : Shared} {l : Addr} {vs : List Value} {x : Str} {t : Tok} {news : List (Addr × Obj)} {J : Nat → List Value → Prop} {Q : Value → Shared → Prop} (hh : A.handled = none)
    (P : ZPkg prog w A h₀ L m env scope cl elt (.Tuple elts x1 tp) c s₁ l vs x news J)
    (k : ∀ it g nf n J', CPkg prog w A h₀ L m env scope cl elt (.Tuple elts x1 tp) c (fun ys nf => J (min vs.length x.cps.size) ys ∧ ∀ p ∈ news, p ∈ nf) it { s₁ with heap := g } nf n J' → Q it { s₁ with heap := g }) :
    wpAny (model prog w) A (call (.type "zip") [.ref l, .str x t]) (fun xv s' => wpAny (model prog w) A (pyIter xv) Q E s') E s₁ :=
  pickAll K_ZPkg_run0.ne (P := fun c => @K_ZPkg_run0.Pκ (c.1) (c.2.1) (c.2.2.1) (c.2.2.2.1) (c.2.2.2.2.1) (c.2.2.2.2.2.1) (c.2.2.2.2.2.2.1) (c.2.2.2.2.2.2.2.1) (c.2.2.2.2.2.2.2.2.1) (c.2.2.2.2.2.2.2.2.2.1) (c.2.2.2.2.2.2.2.2.2.2.1) (c.2.2.2.2.2.2.2.2.2.2.2.1) (c.2.2.2.2.2.2.2.2.2.2.2.2.1) (c.2.2.2.2.2.2.2.2.2.2.2.2.2.1) (c.2.2.2.2.2.2.2.2.2.2.2.2.2.2.1) (c.2.2.2.2.2.2.2.2.2.2.2.2.2.2.2.1) (c.2.2.2.2.2.2.2.2.2.2.2.2.2.2.2.2.1) (c.2.2.2.2.2.2.2.2.2.2.2.2.2.2.2.2.2.1) (c.2.2.2.2.2.2.2.2.2.2.2.2.2.2.2.2.2.2.1) (c.2.2.2.2.2.2.2.2.2.2.2.2.2.2.2.2.2.2.2.1) (c.2.2.2.2.2.2.2.2.2.2.2.2.2.2.2.2.2.2.2.2.1) (c.2.2.2.2.2.2.2.2.2.2.2.2.2.2.2.2.2.2.2.2.2.1) (c.2.2.2.2.2.2.2.2.2.2.2.2.2.2.2.2.2.2.2.2.2.2)) K_ZPkg_run0.core (prog, w, A, E, env, h₀, L, m, elts, x1, tp, elt, c, scope, cl, s₁, l, vs, x, t, news, J, Q) hh P k
def ZQ (prog : Program) (w : World) (A : Around) (h₀ : Heap) (L : Addr) (m : Str → Option Value) (env : Env) (scope : Scope) (cl : List (Str × Addr)) (elt target c : Expr) (Q : Value → Shared → Prop) (it : Value) (s₂ : Shared) : Prop :=
  ∃ (n₀ : Nat) (news : List (Addr × Obj)) (J : Nat → List Value → Prop) (n : Nat) (J' : Nat → List Value → List (Addr × Obj) → Prop) (nf : List (Addr × Obj)),
    CPkg prog w A h₀ L m env scope cl elt target c (fun ys nf => J n₀ ys ∧ ∀ p ∈ news, p ∈ nf) it s₂ nf n J' ∧
    (∀ D ys h tk, J n₀ ys → Fr h₀ L h m → News h₀ L h ((D, lst ys) :: news) → (∀ p ∈ news, p.1 ≠ D) → Q (.ref D) { s₂ with heap := h, toks := tk })
theorem ZPkg.run {elts : List PySem.Expr} {x1} {tp : Pos} {elt c : PySem.Expr} {scope : Scope} {cl : List (Str × Addr)} {s₁ : Shared} {l : Addr} {vs : List Value} {x : Str} {t : Tok} {news : List (Addr × Obj)} {J : Nat → List Value → Prop} {Q : Value → Shared → Prop} (hh : A.handled = none)
    (P : ZPkg prog w A h₀ L m env scope cl elt (.Tuple elts x1 tp) c s₁ l vs x news J)
    (fin : ∀ D ys h tk, J (min vs.length x.cps.size) ys → Fr h₀ L h m → News h₀ L h ((D, lst ys) :: news) → (∀ p ∈ news, p.1 ≠ D) → Q (.ref D) { s₁ with heap := h, toks := tk }) :
    wpAny (model prog w) A (call (.type "zip") [.ref l, .str x t]) (fun xv s' => wpAny (model prog w) A (pyIter xv) (ZQ prog w A h₀ L m env scope cl elt (.Tuple elts x1 tp) c Q) E s') E s₁ :=
  P.run0 hh fun _ _ nf n J' C => ⟨_, news, J, n, J', nf, C, fin⟩
theorem my_comp_zip {elts : List PySem.Expr} {x1} {tp pos : Pos} {elt iter c : PySem.Expr} {scope : Scope} {cl : List (Str × Addr)} {Q : Value → Shared → Prop} (_F₀ : Fr h₀ L s.heap m) (hh : A.handled = none)
    (hclos : closureFor scope env = pure cl) (hcell : ∀ y ∈ scope.names, y.2 ≠ .cell) (hkind : scope.kind = .function)
    (hnames : ∀ y ∈ scope.names, y.2 = .local → scope.names.lookup y.1 = some .local) (hs : ∀ x, foldedSetIterable iter env x = pure x)
    (h : wpAny (model prog w) A (eval iter env) (fun xv s₁ => wpAny (model prog w) A (pyIter xv) (ZQ prog w A h₀ L m env scope cl elt (.Tuple elts x1 tp) c Q) E s₁) E s) :
    wpAny (model prog w) A (eval (.ListComp elt [⟨.Tuple elts x1 tp, iter, [c], 0⟩] scope pos) env) Q E s := by
  refine my_comp (h₀ := h₀) (L := L) (m := m) hclos hcell hkind hnames hs (wpAny_mono h (fun xv s₁ h₁ => wpAny_mono h₁ (fun it s₂ h₂ => ?_) fun _ _ e => e) fun _ _ e => e)
  obtain ⟨n₀, news, J, n, J', nf, P, fin⟩ := h₂
  refine ⟨_, _, _, _, P, fun D ys nf h tk hf F N off => fin D ys h tk hf.1 F (fun p hp => N p ?_) fun p hp => off p (hf.2 p hp)⟩
  rcases List.mem_cons.mp hp with rfl | hp
  · exact List.mem_cons_self
  · exact List.mem_cons_of_mem _ (hf.2 p hp)
end
end Mine
end
section
open PySem PySem.W PyProof.Rows PySem.Calls
set_option Elab.async false
set_option maxRecDepth 100000
set_option maxHeartbeats 1000000
namespace Mine
open PyProof.Rows.LCg (NsObj ns_obj lst lst_snoc SrcAt)
abbrev Piece := Bool × List (Nat × Nat)
def PieceAt (h : Heap) (v : Value) (p : Piece) : Prop := ∃ (pc l : Addr) (vs : List Value), v = .ref pc ∧ IsTup h pc #[.bool p.1, .ref l] ∧ h.IsList l vs.toArray ∧ All2 (EndAt h) vs p.2 ∧ vs.length ≤ 100
theorem ends_keeps {h h' : Heap} {vs : List Value} {ends : List (Nat × Nat)} (x : All2 (EndAt h) vs ends) (k : Kp h h') : All2 (EndAt h') vs ends :=
  x.mono fun _ _ ⟨p, t, t', e, q⟩ => ⟨p, t, t', e, istup_keeps q k⟩
theorem PieceAt.keeps {h h' : Heap} {v : Value} {p : Piece} (x : PieceAt h v p) (k : Kp h h') : PieceAt h' v p := by
  obtain ⟨pc, l, vs, e, a, b, c, d⟩ := x; exact ⟨pc, l, vs, e, istup_keeps a k, islist_keeps b k, ends_keeps c k, d⟩
def RunAt (h : Heap) (v : Value) (run : List Piece) : Prop := ∃ (l : Addr) (vs : List Value), v = .ref l ∧ h.IsList l vs.toArray ∧ All2 (PieceAt h) vs run ∧ vs.length ≤ 100
theorem RunAt.keeps {h h' : Heap} {v : Value} {run : List Piece} (x : RunAt h v run) (k : Kp h h') : RunAt h' v run := by
  obtain ⟨l, vs, e, a, b, c⟩ := x; exact ⟨l, vs, e, islist_keeps a k, b.mono fun _ _ q => q.keeps k, c⟩
def meetsB (p : Piece) (c : Nat) : Bool := inEnds p.2 c != p.1
def liesB : List Piece → List Nat → Bool
  | [], _ => true
  | _ :: _, [] => false
  | p :: r, c :: xs => meetsB p c && liesB r xs
/-- how many meet -/
def metN (run : List Piece) (xs : List Nat) : Nat := ((run.zip xs).filter fun q => meetsB q.1 q.2).length
theorem metN_le : ∀ (run : List Piece) (xs : List Nat), metN run xs ≤ run.length
  | [], _ => by simp [metN]
  | _ :: _, [] => by simp [metN]
  | p :: r, c :: xs => by
    have := metN_le r xs
    unfold metN at *
    rw [List.zip_cons_cons, List.filter_cons]
    split <;> simp <;> lia
theorem lies_metN : ∀ (run : List Piece) (xs : List Nat), decide ((run.length : Int) = (metN run xs : Int)) = liesB run xs
  | [], _ => by show decide ((0 : Int) = 0) = true; decide
  | p :: r, [] => decide_eq_false (by show ¬ ((r.length + 1 : Nat) : Int) = ((0 : Nat) : Int); lia)
  | p :: r, c :: xs => by
    have ih := lies_metN r xs
    have hle := metN_le r xs
    show _ = (meetsB p c && liesB r xs)
    rw [← ih]
    unfold metN at *
    rw [List.zip_cons_cons, List.filter_cons]
    cases hm : meetsB p c with
    | true =>
      simp only [if_true, Bool.true_and, List.length_cons]
      rw [Bool.eq_iff_iff, decide_eq_true_eq, decide_eq_true_eq]
      lia
    | false =>
      simp only [Bool.false_eq_true, if_false, Bool.false_and, List.length_cons]
      rw [decide_eq_false_iff_not]
      lia
theorem liesB_take : ∀ (run : List Piece) (xs : List Nat), liesB run (xs.take run.length) = liesB run xs
  | [], _ => rfl
  | p :: r, [] => rfl
  | p :: r, c :: xs => by show (meetsB p c && liesB r (xs.take r.length)) = (meetsB p c && liesB r xs); rw [liesB_take r xs]
theorem metN_min {run : List Piece} {xs : List Nat} {n : Nat} (h : n = min run.length xs.length) : metN (run.take n) (xs.take n) = metN run xs := by
  unfold metN
  rw [List.zip_eq_zipWith, List.zip_eq_zipWith, ← List.take_zipWith, List.take_of_length_le (by rw [List.length_zipWith]; lia)]
theorem metN_take_succ {run : List Piece} {xs : List Nat} {i : Nat} {p : Piece} {c : Nat} (hp : run[i]? = some p) (hc : xs[i]? = some c) : metN (run.take (i + 1)) (xs.take (i + 1)) = metN (run.take i) (xs.take i) + (if meetsB p c = true then 1 else 0) := by
  have hi : i < run.length := (List.getElem?_eq_some_iff.mp hp).1
  have hj : i < xs.length := (List.getElem?_eq_some_iff.mp hc).1
  unfold metN
  rw [take_snoc hp, take_snoc hc, List.zip_append (by rw [List.length_take, List.length_take]; lia), List.filter_append, List.length_append]
  simp only [List.zip_cons_cons, List.zip_nil_right, List.filter_cons, List.filter_nil]
  split <;> rfl

section
local macro_rules | `(tactic| walk_at "execs cons") => `(tactic| wtm_at "mXC")
local macro_rules | `(tactic| walk_at "call builtin:len") => `(tactic| wtm_at "mSB")
local macro_rules | `(tactic| walk_at "eval ListComp") => `(tactic| wtm_at "mS")

namespace K_S_lies
def P (w : World) (h : Heap) (l : Addr) (vs : List Value) (run : List Piece) (name : List Nat) (place : Nat) (tn : Tok) (tp : Tok) (dp : Nat) (un : Nat) (fr : Option (List Env)) (gd : Option (List Code)) (s : Shared) (Q : Value → Shared → Prop) (E : Value → Shared → Prop) : Prop :=
  ∀ (hS : St w h) (hl : h.IsList l vs.toArray) (hall : All2 (PieceAt h) vs run) (hlv : vs.length ≤ 100) (hnl : name.length ≤ 100), SpecAt w 147 [.ref l, .str (txt name) tn, .int place tp] 8 500 h (fun tl v => tl = [] ∧ v = .bool (liesB run (name.drop place))) dp un fr gd s Q E
theorem ne : Nonempty ((World) × (Heap) × (Addr) × (List Value) × (List Piece) × (List Nat) × (Nat) × (Tok) × (Tok) × (Nat) × (Nat) × (Option (List Env)) × (Option (List Code)) × (Shared) × (Value → Shared → Prop) × (Value → Shared → Prop)) := ⟨(w0, Classical.ofNonempty, Classical.ofNonempty, Classical.ofNonempty, Classical.ofNonempty, Classical.ofNonempty, Classical.ofNonempty, Classical.ofNonempty, Classical.ofNonempty, Classical.ofNonempty, Classical.ofNonempty, Classical.ofNonempty, Classical.ofNonempty, {}, Classical.ofNonempty, Classical.ofNonempty)⟩
noncomputable def κ : (World) × (Heap) × (Addr) × (List Value) × (List Piece) × (List Nat) × (Nat) × (Tok) × (Tok) × (Nat) × (Nat) × (Option (List Env)) × (Option (List Code)) × (Shared) × (Value → Shared → Prop) × (Value → Shared → Prop) := pick ne fun c => ¬ P (c.1) (c.2.1) (c.2.2.1) (c.2.2.2.1) (c.2.2.2.2.1) (c.2.2.2.2.2.1) (c.2.2.2.2.2.2.1) (c.2.2.2.2.2.2.2.1) (c.2.2.2.2.2.2.2.2.1) (c.2.2.2.2.2.2.2.2.2.1) (c.2.2.2.2.2.2.2.2.2.2.1) (c.2.2.2.2.2.2.2.2.2.2.2.1) (c.2.2.2.2.2.2.2.2.2.2.2.2.1) (c.2.2.2.2.2.2.2.2.2.2.2.2.2.1) (c.2.2.2.2.2.2.2.2.2.2.2.2.2.2.1) (c.2.2.2.2.2.2.2.2.2.2.2.2.2.2.2)
noncomputable def w : World := κ.1
noncomputable def h : Heap := κ.2.1
noncomputable def l : Addr := κ.2.2.1
noncomputable def vs : List Value := κ.2.2.2.1
noncomputable def run : List Piece := κ.2.2.2.2.1
noncomputable def name : List Nat := κ.2.2.2.2.2.1
noncomputable def place : Nat := κ.2.2.2.2.2.2.1
noncomputable def tn : Tok := κ.2.2.2.2.2.2.2.1
noncomputable def tp : Tok := κ.2.2.2.2.2.2.2.2.1
noncomputable def dp : Nat := κ.2.2.2.2.2.2.2.2.2.1
noncomputable def un : Nat := κ.2.2.2.2.2.2.2.2.2.2.1
noncomputable def fr : Option (List Env) := κ.2.2.2.2.2.2.2.2.2.2.2.1
noncomputable def gd : Option (List Code) := κ.2.2.2.2.2.2.2.2.2.2.2.2.1
noncomputable def s : Shared := κ.2.2.2.2.2.2.2.2.2.2.2.2.2.1
noncomputable def Q : Value → Shared → Prop := κ.2.2.2.2.2.2.2.2.2.2.2.2.2.2.1
noncomputable def E : Value → Shared → Prop := κ.2.2.2.2.2.2.2.2.2.2.2.2.2.2.2
noncomputable def L : Addr := Heap.objs h |>.size
noncomputable def h₁ : Heap := (HT (hd.heap_39 w.params) 147 w h L dp un fr gd s Q [(Str.ofString "run", .ref l), (Str.ofString "name", .str (txt name) tn), (Str.ofString "place", .int place tp)]).1
noncomputable def tk : Nat := (HT (hd.heap_39 w.params) 147 w h L dp un fr gd s Q [(Str.ofString "run", .ref l), (Str.ofString "name", .str (txt name) tn), (Str.ofString "place", .int place tp)]).2
local macro_rules | `(tactic| walk_at "no key") => `(tactic| skip)
theorem core : P w h l vs run name place tn tp dp un fr gd s Q E := by
  intro hS hl hall hlv hnl hdp hun hh hQ
  w_top off
  refine fillG ?_
  k_fill
  intro _ _
  obtain ⟨X, T⟩ := St.top hS
  refine' enterE (K := hd.heap_39 w.params) hdp hh L rfl X T [(Str.ofString "run", .ref l), (Str.ofString "name", .str (txt name) tn), (Str.ofString "place", .int place tp)] ?k3 ?k4 (by lia) ?k6 ?k7 ?k8 ?k9 ?k10 ?k11 h₁ rfl tk rfl ?_
  case k3 => k_is
  case k4 => k_is
  case k6 => exact rfl
  case k7 => decide
  case k8 => exact locs rfl
  case k9 => exact rfl
  case k10 => exact rfl
  case k11 => exact rfl
  intro F N
  have hL : L = h.objs.size := rfl
  try dsimp only
  have hnt : (txt name).length ≤ 1000 := by rw [txt_length]; lia
  k_steps
  repeat' ((first | ((with_reducible refine Stop.bui "len" ?_); refine len_lst (by is_list) (by (try simp only [List.length_cons, List.length_nil]); lia) ?_; intro _ _; (try dsimp only)) | ((with_reducible refine Stop.ref ?_); (first | refine use_spec0 (S_meets _ _ _ _ _ _ _ _ _ stK (istup_keeps (by assumption) (kp_of (by assumption))) (islist_keeps (by assumption) (kp_of (by assumption))) (ends_keeps (by assumption) (kp_of (by assumption))) (by lia)) rfl (by first | exact bud (by assumption) (by rfl) | exact bud0 (by assumption) (by rfl) | (dsimp only [AA]; lia)) (by first | exact bud (by assumption) (by rfl) | exact bud0 (by assumption) (by rfl) | (dsimp only [AA]; lia)) (by assumption) (by assumption) ?_); intro _ _ _ _)); (try k_steps))
  unfold Stop
  (with_reducible rename Fr _ _ _ _ => Fx)
  (with_reducible rename News _ _ _ _ => Nx)
  have hpart : Txt.slice (txt name) (some (place : Int)) (some ((place : Int) + (vs.length : Int))) = txt ((name.drop place).take vs.length) := by
    have := slice_txt name place (place + vs.length) (by lia)
    rw [Nat.add_sub_cancel_left] at this
    rw [← this]; push_cast; rfl
  simp only [hpart] at Fx
  refine my_comp_zip Fx (by rfl) (by with_unfolding_all rfl) (by decide) (by rfl) (by decide) (by intro _; rfl) ?_
  k_steps
  repeat' ((first | ((with_reducible refine Stop.bui "len" ?_); refine len_lst (by is_list) (by (try simp only [List.length_cons, List.length_nil]); lia) ?_; intro _ _; (try dsimp only)) | ((with_reducible refine Stop.ref ?_); (first | refine use_spec0 (S_meets _ _ _ _ _ _ _ _ _ stK (istup_keeps (by assumption) (kp_of (by assumption))) (islist_keeps (by assumption) (kp_of (by assumption))) (ends_keeps (by assumption) (kp_of (by assumption))) (by lia)) rfl (by first | exact bud (by assumption) (by rfl) | exact bud0 (by assumption) (by rfl) | (dsimp only [AA]; lia)) (by first | exact bud (by assumption) (by rfl) | exact bud0 (by assumption) (by rfl) | (dsimp only [AA]; lia)) (by assumption) (by assumption) ?_); intro _ _ _ _)); (try k_steps))
  refine ZPkg.run (news := []) (J := fun i ys => ys.length = metN (run.take i) (((name.drop place).take vs.length).take i)) (by rfl) ⟨by assumption, by assumption, Nat.le_trans hlv (by decide), rfl, ?_, hl, ?_⟩ ?_
  · intro i ys hy
    rw [hy]
    exact Nat.le_trans (metN_le _ _) (by rw [List.length_take]; exact Nat.min_le_left _ _)
  · intro i v a ys C oC D all h3 tk3 T t3 hv ha hy hsub cs hT
    obtain ⟨p, hp, pc, pl, pvs, rfl, hpt, hpl, hpe, hpn⟩ := hall.get hv
    rw [txt_get] at ha
    have hstep := metN_take_succ hp ha
    refine comp_pair rfl rfl rfl rfl (by decide) cs hT ?_
    intro h4 tk4 oC4 mC cs4 ho hx hy4
    obtain ⟨F4, N4, off4, cd4, ns4⟩ := cs4
    clear cs Fx Nx
    k_steps
    repeat' ((first | ((with_reducible refine Stop.bui "len" ?_); refine len_lst (by is_list) (by (try simp only [List.length_cons, List.length_nil]); lia) ?_; intro _ _; (try dsimp only)) | ((with_reducible refine Stop.ref ?_); (first | refine use_spec0 (S_meets _ _ _ _ _ _ _ _ _ stK (istup_keeps (by assumption) (kp_of (by assumption))) (islist_keeps (by assumption) (kp_of (by assumption))) (ends_keeps (by assumption) (kp_of (by assumption))) (by lia)) rfl (by first | exact bud (by assumption) (by rfl) | exact bud0 (by assumption) (by rfl) | (dsimp only [AA]; lia)) (by first | exact bud (by assumption) (by rfl) | exact bud0 (by assumption) (by rfl) | (dsimp only [AA]; lia)) (by assumption) (by assumption) ?_); intro _ _ _ _)); (try k_steps))
    · have hm : meetsB p a = true := by assumption
      rw [if_pos hm] at hstep
      exact ⟨_, _, _, rfl, ⟨by assumption, by assumption, off4, cd4, ns4⟩, by rw [List.length_append, hstep, hy]; rfl⟩
    · have hm : meetsB p a = false := by assumption
      rw [if_neg (by rw [hm]; decide)] at hstep
      exact ⟨_, _, _, rfl, ⟨by assumption, by assumption, off4, cd4, ns4⟩, by rw [hstep, hy]; rfl⟩
  · intro D ys h3 tk3 hy F3 N3 off3
    clear Fx Nx
    rw [metN_min (by rw [txt_size, hall.1])] at hy
    have hyl := metN_le run ((name.drop place).take vs.length)
    have hrl := hall.1
    k_steps
    repeat' ((first | ((with_reducible refine Stop.bui "len" ?_); refine len_lst (by is_list) (by (try simp only [List.length_cons, List.length_nil]); lia) ?_; intro _ _; (try dsimp only)) | ((with_reducible refine Stop.ref ?_); (first | refine use_spec0 (S_meets _ _ _ _ _ _ _ _ _ stK (istup_keeps (by assumption) (kp_of (by assumption))) (islist_keeps (by assumption) (kp_of (by assumption))) (ends_keeps (by assumption) (kp_of (by assumption))) (by lia)) rfl (by first | exact bud (by assumption) (by rfl) | exact bud0 (by assumption) (by rfl) | (dsimp only [AA]; lia)) (by first | exact bud (by assumption) (by rfl) | exact bud0 (by assumption) (by rfl) | (dsimp only [AA]; lia)) (by assumption) (by assumption) ?_); intro _ _ _ _)); (try k_steps))
    refine hQ _ [] _ _ (kp_of (by assumption)) Fsh.nil ⟨rfl, congrArg Value.bool ?_⟩
    rw [← liesB_take, ← lies_metN, hy, hrl, Bool.eq_iff_iff, beq_iff_eq, decide_eq_true_eq]
end K_S_lies
theorem S_lies (w : World) (h : Heap) (l : Addr) (vs : List Value) (run : List Piece) (name : List Nat) (place : Nat) (tn tp : Tok) (hS : St w h) (hl : h.IsList l vs.toArray) (hall : All2 (PieceAt h) vs run) (hlv : vs.length ≤ 100) (hnl : name.length ≤ 100) : Spec w 147 [.ref l, .str (txt name) tn, .int place tp] 8 500 h (fun tl v => tl = [] ∧ v = .bool (liesB run (name.drop place))) :=
  spec_of fun dp un fr gd s Q E => pickAll K_S_lies.ne (P := fun c => K_S_lies.P (c.1) (c.2.1) (c.2.2.1) (c.2.2.2.1) (c.2.2.2.2.1) (c.2.2.2.2.2.1) (c.2.2.2.2.2.2.1) (c.2.2.2.2.2.2.2.1) (c.2.2.2.2.2.2.2.2.1) (c.2.2.2.2.2.2.2.2.2.1) (c.2.2.2.2.2.2.2.2.2.2.1) (c.2.2.2.2.2.2.2.2.2.2.2.1) (c.2.2.2.2.2.2.2.2.2.2.2.2.1) (c.2.2.2.2.2.2.2.2.2.2.2.2.2.1) (c.2.2.2.2.2.2.2.2.2.2.2.2.2.2.1) (c.2.2.2.2.2.2.2.2.2.2.2.2.2.2.2)) K_S_lies.core (w, h, l, vs, run, name, place, tn, tp, dp, un, fr, gd, s, Q, E) hS hl hall hlv hnl
end
end Mine
end
section
open PySem PySem.W PyProof.Rows PySem.Calls
set_option Elab.async false
set_option maxRecDepth 100000
set_option maxHeartbeats 1000000
namespace Mine
open PyProof.Rows.LCg (NsObj ns_obj lst lst_snoc SrcAt)
theorem pieces_keeps {h h' : Heap} {vs : List Value} {run : List Piece} (x : All2 (PieceAt h) vs run) (k : Kp h h') : All2 (PieceAt h') vs run := x.mono fun _ _ q => q.keeps k
theorem S_liesZ (w : World) (h : Heap) (l : Addr) (vs : List Value) (run : List Piece) (name : List Nat) (place : Int) (tn tp : Tok) (hS : St w h) (hl : h.IsList l vs.toArray) (hall : All2 (PieceAt h) vs run) (hlv : vs.length ≤ 100) (hnl : name.length ≤ 100) (hp : 0 ≤ place) :
    Spec w 147 [.ref l, .str (txt name) tn, .int place tp] 8 500 h (fun tl v => tl = [] ∧ v = .bool (liesB run (name.drop place.toNat))) := by
  obtain ⟨n, rfl⟩ := Int.eq_ofNat_of_zero_le hp
  exact S_lies w h l vs run name n tn tp hS hl hall hlv hnl
def RunsAt (h : Heap) (a : Addr) (runs : List (List Piece)) : Prop := ∃ vs : List Value, h.IsList a vs.toArray ∧ All2 (RunAt h) vs runs
def seekN (run : List Piece) (name : List Nat) : Nat → Nat → Nat
  | 0, p => p
  | f + 1, p => if p ≤ name.length ∧ liesB run (name.drop p) = false then seekN run name f (p + 1) else p
def seekP (run : List Piece) (name : List Nat) (p : Nat) : Nat := seekN run name (name.length + 1 - p) p
theorem seekP_go {run : List Piece} {name : List Nat} {p : Nat} (h1 : p ≤ name.length) (h2 : liesB run (name.drop p) = false) : seekP run name p = seekP run name (p + 1) := by
  unfold seekP
  rw [show name.length + 1 - p = (name.length + 1 - (p + 1)) + 1 from by rw [Nat.succ_sub_succ]; exact Nat.succ_sub h1]
  exact if_pos (And.intro h1 h2)
theorem seekP_end {run : List Piece} {name : List Nat} {p : Nat} (h : ¬ (p ≤ name.length ∧ liesB run (name.drop p) = false)) : seekP run name p = p := by
  unfold seekP
  cases name.length + 1 - p with
  | zero => rfl
  | succ n => exact if_neg h
def midP (name : List Nat) (mid : List (List Piece)) (p : Nat) : Nat := mid.foldl (fun p run => seekP run name p + run.length) p
theorem midP_snoc {name : List Nat} {xs : List (List Piece)} {r : List Piece} {p : Nat} : midP name (xs ++ [r]) p = seekP r name (midP name xs p) + r.length := by simp [midP, List.foldl_append]
def takesB (runs : List (List Piece)) (name : List Nat) : Bool :=
  match runs with
  | [] => false
  | [r] => liesB r name && decide (r.length = name.length)
  | r :: r2 :: rest => liesB r name && (let z := (r2 :: rest).getLast (by simp); decide (midP name (r2 :: rest).dropLast r.length + z.length ≤ name.length) && liesB z (name.drop (name.length - z.length)))

section
local macro_rules | `(tactic| walk_at "execs cons") => `(tactic| wtm_at "mXC")
local macro_rules | `(tactic| walk_at "compareOp Eq ref ref") => `(tactic| wtm_at "mS")
local macro_rules | `(tactic| walk_at "subscriptTail Name Constant ref int") => `(tactic| wtm_at "mS")
local macro_rules | `(tactic| walk_at "subscriptTail Name UnaryOp ref int") => `(tactic| wtm_at "mS")

local macro_rules | `(tactic| walk_at "subscriptTail Name Slice ref ref") => `(tactic| wtm_at "mS")
local macro_rules | `(tactic| walk_at "call builtin:len") => `(tactic| wtm_at "mSB")
namespace K_S_takes1
def P (w : World) (h : Heap) (a : Addr) (r : List Piece) (name : List Nat) (tn : Tok) (dp : Nat) (un : Nat) (fr : Option (List Env)) (gd : Option (List Code)) (s : Shared) (Q : Value → Shared → Prop) (E : Value → Shared → Prop) : Prop :=
  ∀ (v0 : Value) (hS : St w h) (hl : h.IsList a [v0].toArray) (h0 : RunAt h v0 r) (hnl : name.length ≤ 100), SpecAt w 154 [.ref a, .str (txt name) tn] 12 700 h (fun tl v => v = .bool (takesB [r] name)) dp un fr gd s Q E
theorem ne : Nonempty ((World) × (Heap) × (Addr) × (List Piece) × (List Nat) × (Tok) × (Nat) × (Nat) × (Option (List Env)) × (Option (List Code)) × (Shared) × (Value → Shared → Prop) × (Value → Shared → Prop)) := ⟨(w0, Classical.ofNonempty, Classical.ofNonempty, Classical.ofNonempty, Classical.ofNonempty, Classical.ofNonempty, Classical.ofNonempty, Classical.ofNonempty, Classical.ofNonempty, Classical.ofNonempty, {}, Classical.ofNonempty, Classical.ofNonempty)⟩
noncomputable def κ : (World) × (Heap) × (Addr) × (List Piece) × (List Nat) × (Tok) × (Nat) × (Nat) × (Option (List Env)) × (Option (List Code)) × (Shared) × (Value → Shared → Prop) × (Value → Shared → Prop) := pick ne fun c => ¬ P (c.1) (c.2.1) (c.2.2.1) (c.2.2.2.1) (c.2.2.2.2.1) (c.2.2.2.2.2.1) (c.2.2.2.2.2.2.1) (c.2.2.2.2.2.2.2.1) (c.2.2.2.2.2.2.2.2.1) (c.2.2.2.2.2.2.2.2.2.1) (c.2.2.2.2.2.2.2.2.2.2.1) (c.2.2.2.2.2.2.2.2.2.2.2.1) (c.2.2.2.2.2.2.2.2.2.2.2.2)
noncomputable def w : World := κ.1
noncomputable def h : Heap := κ.2.1
noncomputable def a : Addr := κ.2.2.1
noncomputable def r : List Piece := κ.2.2.2.1
noncomputable def name : List Nat := κ.2.2.2.2.1
noncomputable def tn : Tok := κ.2.2.2.2.2.1
noncomputable def dp : Nat := κ.2.2.2.2.2.2.1
noncomputable def un : Nat := κ.2.2.2.2.2.2.2.1
noncomputable def fr : Option (List Env) := κ.2.2.2.2.2.2.2.2.1
noncomputable def gd : Option (List Code) := κ.2.2.2.2.2.2.2.2.2.1
noncomputable def s : Shared := κ.2.2.2.2.2.2.2.2.2.2.1
noncomputable def Q : Value → Shared → Prop := κ.2.2.2.2.2.2.2.2.2.2.2.1
noncomputable def E : Value → Shared → Prop := κ.2.2.2.2.2.2.2.2.2.2.2.2
noncomputable def L : Addr := Heap.objs h |>.size
noncomputable def h₁ : Heap := (HT (hd.heap_39 w.params) 154 w h L dp un fr gd s Q [(Str.ofString "runs", .ref a), (Str.ofString "name", .str (txt name) tn)]).1
noncomputable def tk : Nat := (HT (hd.heap_39 w.params) 154 w h L dp un fr gd s Q [(Str.ofString "runs", .ref a), (Str.ofString "name", .str (txt name) tn)]).2
theorem core : P w h a r name tn dp un fr gd s Q E := by
  intro v0 hS hl h0 hnl hdp hun hh hQ
  w_top off
  refine fillG ?_
  k_fill
  intro _ _
  obtain ⟨X, T⟩ := St.top hS
  refine' enterE (K := hd.heap_39 w.params) hdp hh L rfl X T [(Str.ofString "runs", .ref a), (Str.ofString "name", .str (txt name) tn)] ?k3 ?k4 (by lia) ?k6 ?k7 ?k8 ?k9 ?k10 ?k11 h₁ rfl tk rfl ?_
  case k3 => k_is
  case k4 => k_is
  case k6 => exact rfl
  case k7 => decide
  case k8 => exact locs rfl
  case k9 => exact rfl
  case k10 => exact rfl
  case k11 => exact rfl
  intro F N
  have hL : L = h.objs.size := rfl
  try dsimp only
  have hnt : (txt name).length ≤ 1000 := by rw [txt_length]; lia
  have hnt' : (txt name).length = name.length := txt_length
  obtain ⟨l0, vs0, rfl, hl0, ha0, hn0⟩ := h0
  k_steps
  repeat' ((first | ((with_reducible refine Stop.bui "len" ?_); refine len_lst (by is_list) (by (try simp only [List.length_cons, List.length_nil]); lia) ?_; intro _ _; (try dsimp only)) | ((with_reducible refine Stop.ref ?_); (first | refine use_spec0 (S_liesZ _ _ _ _ _ _ _ _ _ stK (islist_keeps (by assumption) (kp_of (by assumption))) (pieces_keeps (by assumption) (kp_of (by assumption))) (by lia) (by lia) (by lia)) rfl (by first | exact bud (by assumption) (by rfl) | exact bud0 (by assumption) (by rfl) | (dsimp only [AA]; lia)) (by first | exact bud (by assumption) (by rfl) | exact bud0 (by assumption) (by rfl) | (dsimp only [AA]; lia)) (by assumption) (by assumption) ?_); intro _ _ _ _) | ((with_reducible refine Stop.cmp ?_); refine eq_nil (by is_list) (by is_list) (by dsimp only [AA]; lia) ?_; (try dsimp only [List.isEmpty])) | ((with_reducible refine Stop.subC ?_); refine item_at (k := 0) (by is_list) (by rfl) (by decide) ?_ (by with_unfolding_all rfl)) | ((with_reducible refine Stop.subU ?_); refine item_last (by is_list) (by assumption) ?_ (by with_unfolding_all rfl))); (try k_steps))
  · refine hQ _ [] _ _ (kp_of (by assumption)) Fsh.nil (congrArg Value.bool ?_)
    have hm : liesB r name = true := by assumption
    rw [hnt', ha0.1, show takesB [r] name = (liesB r name && decide (r.length = name.length)) from rfl, hm, Bool.true_and, Bool.eq_iff_iff, beq_iff_eq, decide_eq_true_eq]
    lia
  · rename _ ≠ _ => ne
    exact absurd rfl ne
  · try dsimp only
    refine hQ _ [] _ _ (kp_of (by assumption)) Fsh.nil (congrArg Value.bool ?_)
    have hm : liesB r name = false := by assumption
    rw [show takesB [r] name = (liesB r name && decide (r.length = name.length)) from rfl, hm, Bool.false_and]
end K_S_takes1
theorem S_takes1 (w : World) (h : Heap) (a : Addr) (v0 : Value) (r : List Piece) (name : List Nat) (tn : Tok) (hS : St w h) (hl : h.IsList a [v0].toArray) (h0 : RunAt h v0 r) (hnl : name.length ≤ 100) : Spec w 154 [.ref a, .str (txt name) tn] 12 700 h (fun tl v => v = .bool (takesB [r] name)) :=
  spec_of fun dp un fr gd s Q E => pickAll K_S_takes1.ne (P := fun c => K_S_takes1.P (c.1) (c.2.1) (c.2.2.1) (c.2.2.2.1) (c.2.2.2.2.1) (c.2.2.2.2.2.1) (c.2.2.2.2.2.2.1) (c.2.2.2.2.2.2.2.1) (c.2.2.2.2.2.2.2.2.1) (c.2.2.2.2.2.2.2.2.2.1) (c.2.2.2.2.2.2.2.2.2.2.1) (c.2.2.2.2.2.2.2.2.2.2.2.1) (c.2.2.2.2.2.2.2.2.2.2.2.2)) K_S_takes1.core (w, h, a, r, name, tn, dp, un, fr, gd, s, Q, E) v0 hS hl h0 hnl
namespace K_S_takes2
def P (w : World) (h : Heap) (a : Addr) (vr : List Value) (r : List Piece) (r2 : List Piece) (rest : List (List Piece)) (name : List Nat) (tn : Tok) (dp : Nat) (un : Nat) (fr : Option (List Env)) (gd : Option (List Code)) (s : Shared) (Q : Value → Shared → Prop) (E : Value → Shared → Prop) : Prop :=
  ∀ (v0 : Value) (v1 : Value) (vz : Value) (hS : St w h) (hl : h.IsList a (v0 :: v1 :: vr).toArray) (h0 : RunAt h v0 r) (hall : All2 (RunAt h) (v1 :: vr) (r2 :: rest)) (hvz : (v0 :: v1 :: vr).getLast? = some vz) (hlen : vr.length ≤ 100) (hnl : name.length ≤ 100), SpecAt w 154 [.ref a, .str (txt name) tn] 12 700 h (fun tl v => v = .bool (takesB (r :: r2 :: rest) name)) dp un fr gd s Q E
theorem ne : Nonempty ((World) × (Heap) × (Addr) × (List Value) × (List Piece) × (List Piece) × (List (List Piece)) × (List Nat) × (Tok) × (Nat) × (Nat) × (Option (List Env)) × (Option (List Code)) × (Shared) × (Value → Shared → Prop) × (Value → Shared → Prop)) := ⟨(w0, Classical.ofNonempty, Classical.ofNonempty, Classical.ofNonempty, Classical.ofNonempty, Classical.ofNonempty, Classical.ofNonempty, Classical.ofNonempty, Classical.ofNonempty, Classical.ofNonempty, Classical.ofNonempty, Classical.ofNonempty, Classical.ofNonempty, {}, Classical.ofNonempty, Classical.ofNonempty)⟩
noncomputable def κ : (World) × (Heap) × (Addr) × (List Value) × (List Piece) × (List Piece) × (List (List Piece)) × (List Nat) × (Tok) × (Nat) × (Nat) × (Option (List Env)) × (Option (List Code)) × (Shared) × (Value → Shared → Prop) × (Value → Shared → Prop) := pick ne fun c => ¬ P (c.1) (c.2.1) (c.2.2.1) (c.2.2.2.1) (c.2.2.2.2.1) (c.2.2.2.2.2.1) (c.2.2.2.2.2.2.1) (c.2.2.2.2.2.2.2.1) (c.2.2.2.2.2.2.2.2.1) (c.2.2.2.2.2.2.2.2.2.1) (c.2.2.2.2.2.2.2.2.2.2.1) (c.2.2.2.2.2.2.2.2.2.2.2.1) (c.2.2.2.2.2.2.2.2.2.2.2.2.1) (c.2.2.2.2.2.2.2.2.2.2.2.2.2.1) (c.2.2.2.2.2.2.2.2.2.2.2.2.2.2.1) (c.2.2.2.2.2.2.2.2.2.2.2.2.2.2.2)
noncomputable def w : World := κ.1
noncomputable def h : Heap := κ.2.1
noncomputable def a : Addr := κ.2.2.1
noncomputable def vr : List Value := κ.2.2.2.1
noncomputable def r : List Piece := κ.2.2.2.2.1
noncomputable def r2 : List Piece := κ.2.2.2.2.2.1
noncomputable def rest : List (List Piece) := κ.2.2.2.2.2.2.1
noncomputable def name : List Nat := κ.2.2.2.2.2.2.2.1
noncomputable def tn : Tok := κ.2.2.2.2.2.2.2.2.1
noncomputable def dp : Nat := κ.2.2.2.2.2.2.2.2.2.1
noncomputable def un : Nat := κ.2.2.2.2.2.2.2.2.2.2.1
noncomputable def fr : Option (List Env) := κ.2.2.2.2.2.2.2.2.2.2.2.1
noncomputable def gd : Option (List Code) := κ.2.2.2.2.2.2.2.2.2.2.2.2.1
noncomputable def s : Shared := κ.2.2.2.2.2.2.2.2.2.2.2.2.2.1
noncomputable def Q : Value → Shared → Prop := κ.2.2.2.2.2.2.2.2.2.2.2.2.2.2.1
noncomputable def E : Value → Shared → Prop := κ.2.2.2.2.2.2.2.2.2.2.2.2.2.2.2
noncomputable def L : Addr := Heap.objs h |>.size
noncomputable def h₁ : Heap := (HT (hd.heap_39 w.params) 154 w h L dp un fr gd s Q [(Str.ofString "runs", .ref a), (Str.ofString "name", .str (txt name) tn)]).1
noncomputable def tk : Nat := (HT (hd.heap_39 w.params) 154 w h L dp un fr gd s Q [(Str.ofString "runs", .ref a), (Str.ofString "name", .str (txt name) tn)]).2
theorem core : P w h a vr r r2 rest name tn dp un fr gd s Q E := by
  intro v0 v1 vz hS hl h0 hall hvz hlen hnl hdp hun hh hQ
  w_top off
  refine fillG ?_
  k_fill
  intro _ _
  obtain ⟨X, T⟩ := St.top hS
  refine' enterE (K := hd.heap_39 w.params) hdp hh L rfl X T [(Str.ofString "runs", .ref a), (Str.ofString "name", .str (txt name) tn)] ?k3 ?k4 (by lia) ?k6 ?k7 ?k8 ?k9 ?k10 ?k11 h₁ rfl tk rfl ?_
  case k3 => k_is
  case k4 => k_is
  case k6 => exact rfl
  case k7 => decide
  case k8 => exact locs rfl
  case k9 => exact rfl
  case k10 => exact rfl
  case k11 => exact rfl
  intro F N
  have hL : L = h.objs.size := rfl
  try dsimp only
  have hnt : (txt name).length ≤ 1000 := by rw [txt_length]; lia
  have hnt' : (txt name).length = name.length := txt_length
  have hv1 := hall.1
  obtain ⟨l0, vs0, rfl, hl0, ha0, hn0⟩ := h0
  have hzz : (v1 :: vr).getLast? = some vz := by rw [List.getLast?_cons_cons] at hvz; exact hvz
  obtain ⟨z, hz, lz, vsz, rfl, hlz, haz, hnz⟩ := hall.last hzz
  k_steps
  repeat' ((first | ((with_reducible refine Stop.bui "len" ?_); refine len_lst (by is_list) (by (try simp only [List.length_cons, List.length_nil]); lia) ?_; intro _ _; (try dsimp only)) | ((with_reducible refine Stop.ref ?_); (first | refine use_spec0 (S_liesZ _ _ _ _ _ _ _ _ _ stK (islist_keeps (by assumption) (kp_of (by assumption))) (pieces_keeps (by assumption) (kp_of (by assumption))) (by lia) (by lia) (by lia)) rfl (by first | exact bud (by assumption) (by rfl) | exact bud0 (by assumption) (by rfl) | (dsimp only [AA]; lia)) (by first | exact bud (by assumption) (by rfl) | exact bud0 (by assumption) (by rfl) | (dsimp only [AA]; lia)) (by assumption) (by assumption) ?_); intro _ _ _ _) | ((with_reducible refine Stop.cmp ?_); refine eq_nil (by is_list) (by is_list) (by dsimp only [AA]; lia) ?_; (try dsimp only [List.isEmpty])) | ((with_reducible refine Stop.subC ?_); refine item_at (k := 0) (by is_list) (by rfl) (by decide) ?_ (by with_unfolding_all rfl)) | ((with_reducible refine Stop.subU ?_); refine item_last (by is_list) (by assumption) ?_ (by with_unfolding_all rfl))); (try k_steps))
  · exfalso
    rename _ = (1 : Int) => e1
    simp at e1
    lia
  · unfold Stop
    (with_reducible rename Fr _ _ _ _ => Fx)
    replace Fx := fr_same Fx (fun y => if_none (g := fun y => List.lookup y [(Str.ofString "runs", Value.ref a), (Str.ofString "name", Value.str (txt name) tn)].reverse) (b := Str.ofString "run") (by rfl))
    refine my_for Fx (by rfl) (by intro _; rfl) (fun _ _ _ _ _ _ _ q => go_name q) ?_
    k_steps
    repeat' ((first | ((with_reducible refine Stop.bui "len" ?_); refine len_lst (by is_list) (by (try simp only [List.length_cons, List.length_nil]); lia) ?_; intro _ _; (try dsimp only)) | ((with_reducible refine Stop.ref ?_); (first | refine use_spec0 (S_liesZ _ _ _ _ _ _ _ _ _ stK (islist_keeps (by assumption) (kp_of (by assumption))) (pieces_keeps (by assumption) (kp_of (by assumption))) (by lia) (by lia) (by lia)) rfl (by first | exact bud (by assumption) (by rfl) | exact bud0 (by assumption) (by rfl) | (dsimp only [AA]; lia)) (by first | exact bud (by assumption) (by rfl) | exact bud0 (by assumption) (by rfl) | (dsimp only [AA]; lia)) (by assumption) (by assumption) ?_); intro _ _ _ _) | ((with_reducible refine Stop.cmp ?_); refine eq_nil (by is_list) (by is_list) (by dsimp only [AA]; lia) ?_; (try dsimp only [List.isEmpty])) | ((with_reducible refine Stop.subC ?_); refine item_at (k := 0) (by is_list) (by rfl) (by decide) ?_ (by with_unfolding_all rfl)) | ((with_reducible refine Stop.subU ?_); refine item_last (by is_list) (by assumption) ?_ (by with_unfolding_all rfl))); (try k_steps))
    unfold Stop
    (with_reducible rename Fr _ _ _ _ => F')
    (with_reducible rename News _ _ _ _ => N')
    refine slice_mid (s := ⟨_, _, _, _, _⟩) F' N' (by is_list) (by simp) (Nat.le_trans (by simp; lia : _ ≤ 1000) (by decide)) ?_ (by with_unfolding_all rfl) (by intro _; with_unfolding_all rfl)
    intro hh D o hD F2 N2 c2 d2
    clear F' N'
    (try dsimp only at hD)
    refine ⟨D, (v1 :: vr).dropLast, fun i m news => ∃ (p : Nat) (tp : Tok) (q : Option Value), m = (fun y => if y = Str.ofString "place" then some (.int p tp) else if y = Str.ofString "run" then q else List.lookup y [(Str.ofString "runs", Value.ref a), (Str.ofString "name", Value.str (txt name) tn)].reverse) ∧ news = _ ∧ p = midP name ((r2 :: rest).dropLast.take i) vs0.length,
      _, rfl, F2, N2, ⟨_, _, _, rfl, rfl, rfl⟩, ?_, ?_, ?_⟩
    · intro i m news hq1
      (try k_fold)
      obtain ⟨p, tp, q, rfl, rfl, hp⟩ := hq1
      exact .inr ⟨o, .head _, c2, d2⟩
    · intro i v m₁ news₁ h3 tk3 I oI hv hq2 F3 N3 off3
      (try k_fold)
      obtain ⟨p, tp, q, rfl, rfl, hp⟩ := hq2
      obtain ⟨run, hrun, lr, vsr, rfl, hlr, har, hnr⟩ := hall.dropLast.get hv
      have hrl := har.1
      clear F2
      k_steps
      repeat' ((first | ((with_reducible refine Stop.bui "len" ?_); refine len_lst (by is_list) (by (try simp only [List.length_cons, List.length_nil]); lia) ?_; intro _ _; (try dsimp only)) | ((with_reducible refine Stop.ref ?_); (first | refine use_spec0 (S_liesZ _ _ _ _ _ _ _ _ _ stK (islist_keeps (by assumption) (kp_of (by assumption))) (pieces_keeps (by assumption) (kp_of (by assumption))) (by lia) (by lia) (by lia)) rfl (by first | exact bud (by assumption) (by rfl) | exact bud0 (by assumption) (by rfl) | (dsimp only [AA]; lia)) (by first | exact bud (by assumption) (by rfl) | exact bud0 (by assumption) (by rfl) | (dsimp only [AA]; lia)) (by assumption) (by assumption) ?_); intro _ _ _ _) | ((with_reducible refine Stop.cmp ?_); refine eq_nil (by is_list) (by is_list) (by dsimp only [AA]; lia) ?_; (try dsimp only [List.isEmpty])) | ((with_reducible refine Stop.subC ?_); refine item_at (k := 0) (by is_list) (by rfl) (by decide) ?_ (by with_unfolding_all rfl)) | ((with_reducible refine Stop.subU ?_); refine item_last (by is_list) (by assumption) ?_ (by with_unfolding_all rfl))); (try k_steps))
      unfold Stop
      (with_reducible rename Fr _ _ _ _ => Fy)
      replace Fy := fr_same Fy (fun y => if_rp (by decide))
      refine my_while (fun n m news => ∃ (u : Nat) (tu : Tok), m = (fun y => if y = Str.ofString "place" then some (.int u tu) else if y = Str.ofString "run" then some (.ref lr) else List.lookup y [(Str.ofString "runs", Value.ref a), (Str.ofString "name", Value.str (txt name) tn)].reverse) ∧ news = _ ∧ n = name.length + 1 - u ∧ seekP run name u = seekP run name p) Fy (by assumption) ⟨p, tp, rfl, rfl, rfl, rfl⟩ ?_
      intro n m₂ news₂ h4 tk4 hq3 F4 N4
      (try k_fold)
      obtain ⟨u, tu, rfl, rfl, rfl, hu⟩ := hq3
      clear Fy
      k_steps
      repeat' ((first | ((with_reducible refine Stop.bui "len" ?_); refine len_lst (by is_list) (by (try simp only [List.length_cons, List.length_nil]); lia) ?_; intro _ _; (try dsimp only)) | ((with_reducible refine Stop.ref ?_); (first | refine use_spec0 (S_liesZ _ _ _ _ _ _ _ _ _ stK (islist_keeps (by assumption) (kp_of (by assumption))) (pieces_keeps (by assumption) (kp_of (by assumption))) (by lia) (by lia) (by lia)) rfl (by first | exact bud (by assumption) (by rfl) | exact bud0 (by assumption) (by rfl) | (dsimp only [AA]; lia)) (by first | exact bud (by assumption) (by rfl) | exact bud0 (by assumption) (by rfl) | (dsimp only [AA]; lia)) (by assumption) (by assumption) ?_); intro _ _ _ _) | ((with_reducible refine Stop.cmp ?_); refine eq_nil (by is_list) (by is_list) (by dsimp only [AA]; lia) ?_; (try dsimp only [List.isEmpty])) | ((with_reducible refine Stop.subC ?_); refine item_at (k := 0) (by is_list) (by rfl) (by decide) ?_ (by with_unfolding_all rfl)) | ((with_reducible refine Stop.subU ?_); refine item_last (by is_list) (by assumption) ?_ (by with_unfolding_all rfl))); (try k_steps))
      all_goals (try dsimp only)
      · have e2 : liesB run (name.drop (u : Int).toNat) = true := by assumption
        rw [Int.toNat_natCast] at e2
        have e3 : seekP run name p = u := by rw [← hu]; exact seekP_end (fun z => by rw [e2] at z; exact absurd z.2 (by decide))
        unfold FPost
        refine FEnd.mk (fr_same (by assumption) fun y => if_twice) (by assumption) (by repeat (first | exact sub_nil | refine sub_cons (by repeat (first | exact List.Mem.head _ | refine List.Mem.tail _ ?_)) ?_)) off3 ⟨u + vsr.length, _, _, rfl, rfl, ?_⟩
        rw [take_snoc hrun, midP_snoc, ← hp, e3, hrl]
      · have e1 : (u : Int) ≤ ((txt name).length : Int) := by assumption
        have e2 : liesB run (name.drop (u : Int).toNat) = false := by assumption
        rw [hnt'] at e1
        rw [Int.toNat_natCast] at e2
        unfold WPost
        refine WEnd.mk (n' := name.length + 1 - (u + 1)) (fr_same (by assumption) fun y => if_twice) (by assumption) (Nat.sub_lt_sub_left (by lia) (by lia)) ⟨u + 1, _, rfl, rfl, rfl, ?_⟩
        rw [← seekP_go (by lia) e2]; exact hu
      · have e1 : ¬ (u : Int) ≤ ((txt name).length : Int) := by assumption
        rw [hnt'] at e1
        have e3 : seekP run name p = u := by rw [← hu]; exact seekP_end (fun z => e1 (by lia))
        unfold FPost
        refine FEnd.mk (fr_same (by assumption) fun y => if_twice) (by assumption) (by repeat (first | exact sub_nil | refine sub_cons (by repeat (first | exact List.Mem.head _ | refine List.Mem.tail _ ?_)) ?_)) off3 ⟨u + vsr.length, _, _, rfl, rfl, ?_⟩
        rw [take_snoc hrun, midP_snoc, ← hp, e3, hrl]
    · intro m₁ news₁ h3 tk3 hq4 F3 N3
      (try k_fold)
      obtain ⟨p, tp, q, rfl, rfl, hp⟩ := hq4
      clear F2
      have hdl := hall.dropLast.1
      rw [List.take_of_length_le (by lia), ha0.1] at hp
      have hzl := haz.1
      have hm : liesB r (name.drop (Int.toNat 0)) = true := by assumption
      have hg : (r2 :: rest).getLast (by simp) = z := by
        have := hz; rw [List.getLast?_eq_some_getLast (by simp)] at this; exact Option.some.inj this
      have hT : takesB (r :: r2 :: rest) name = (decide (p + z.length ≤ name.length) && liesB z (name.drop (name.length - z.length))) := by
        rw [hp, ← hg]
        show (liesB r (name.drop (Int.toNat 0)) && _) = _
        rw [hm, Bool.true_and]
      k_steps
      repeat' ((first | ((with_reducible refine Stop.bui "len" ?_); refine len_lst (by is_list) (by (try simp only [List.length_cons, List.length_nil]); lia) ?_; intro _ _; (try dsimp only)) | ((with_reducible refine Stop.ref ?_); (first | refine use_spec0 (S_liesZ _ _ _ _ _ _ _ _ _ stK (islist_keeps (by assumption) (kp_of (by assumption))) (pieces_keeps (by assumption) (kp_of (by assumption))) (by lia) (by lia) (by lia)) rfl (by first | exact bud (by assumption) (by rfl) | exact bud0 (by assumption) (by rfl) | (dsimp only [AA]; lia)) (by first | exact bud (by assumption) (by rfl) | exact bud0 (by assumption) (by rfl) | (dsimp only [AA]; lia)) (by assumption) (by assumption) ?_); intro _ _ _ _) | ((with_reducible refine Stop.cmp ?_); refine eq_nil (by is_list) (by is_list) (by dsimp only [AA]; lia) ?_; (try dsimp only [List.isEmpty])) | ((with_reducible refine Stop.subC ?_); refine item_at (k := 0) (by is_list) (by rfl) (by decide) ?_ (by with_unfolding_all rfl)) | ((with_reducible refine Stop.subU ?_); refine item_last (by is_list) (by assumption) ?_ (by with_unfolding_all rfl))); (try k_steps))
      · have e1 : (p : Int) ≤ ((txt name).length : Int) - (vsz.length : Int) := by assumption
        rw [hnt'] at e1
        refine hQ _ [] _ _ (kp_of (by assumption)) Fsh.nil (congrArg Value.bool ?_)
        rw [hT, decide_eq_true (by lia), Bool.true_and, hnt', show ((name.length : Int) - (vsz.length : Int)).toNat = name.length - z.length from by rw [hzl]; exact Int.toNat_sub _ _]
      · have e1 : ¬ (p : Int) ≤ ((txt name).length : Int) - (vsz.length : Int) := by assumption
        try dsimp only
        refine hQ _ [] _ _ (kp_of (by assumption)) Fsh.nil (congrArg Value.bool ?_)
        rw [hnt'] at *
        rw [hT, decide_eq_false e1, decide_eq_false (by lia), Bool.false_and]
  · try dsimp only
    refine hQ _ [] _ _ (kp_of (by assumption)) Fsh.nil (congrArg Value.bool ?_)
    have hm : liesB r name = false := by assumption
    simp only [takesB, hm, Bool.false_and]
end K_S_takes2
theorem S_takes2 (w : World) (h : Heap) (a : Addr) (v0 v1 vz : Value) (vr : List Value) (r r2 : List Piece) (rest : List (List Piece)) (name : List Nat) (tn : Tok) (hS : St w h) (hl : h.IsList a (v0 :: v1 :: vr).toArray) (h0 : RunAt h v0 r) (hall : All2 (RunAt h) (v1 :: vr) (r2 :: rest)) (hvz : (v0 :: v1 :: vr).getLast? = some vz) (hlen : vr.length ≤ 100) (hnl : name.length ≤ 100) : Spec w 154 [.ref a, .str (txt name) tn] 12 700 h (fun tl v => v = .bool (takesB (r :: r2 :: rest) name)) :=
  spec_of fun dp un fr gd s Q E => pickAll K_S_takes2.ne (P := fun c => K_S_takes2.P (c.1) (c.2.1) (c.2.2.1) (c.2.2.2.1) (c.2.2.2.2.1) (c.2.2.2.2.2.1) (c.2.2.2.2.2.2.1) (c.2.2.2.2.2.2.2.1) (c.2.2.2.2.2.2.2.2.1) (c.2.2.2.2.2.2.2.2.2.1) (c.2.2.2.2.2.2.2.2.2.2.1) (c.2.2.2.2.2.2.2.2.2.2.2.1) (c.2.2.2.2.2.2.2.2.2.2.2.2.1) (c.2.2.2.2.2.2.2.2.2.2.2.2.2.1) (c.2.2.2.2.2.2.2.2.2.2.2.2.2.2.1) (c.2.2.2.2.2.2.2.2.2.2.2.2.2.2.2)) K_S_takes2.core (w, h, a, vr, r, r2, rest, name, tn, dp, un, fr, gd, s, Q, E) v0 v1 vz hS hl h0 hall hvz hlen hnl
end
end Mine
end
section
open PySem PySem.W PyProof.Rows PySem.Calls
set_option Elab.async false
set_option maxRecDepth 100000
set_option maxHeartbeats 4000000
namespace Mine
/-- the sign of a remainder -/
def sv (size m : Nat) : Nat := if size = 32 then m else m + 128
def pieceOf (size : Nat) : It → Piece
  | .star => (false, [])
  | .any => (true, [])
  | .sign c => (false, [(sv size (c % size), sv size (c % size))])
  | .br neg a b c => (neg, [(sv size (min (a % size) (b % size)), sv size (max (a % size) (b % size))), (sv size (c % size), sv size (c % size))])
theorem sv_le {size a b : Nat} : sv size a ≤ sv size b ↔ a ≤ b := by unfold sv; split <;> lia
theorem meets_fits {size one : Nat} {it : It} (h : it ≠ .star) : meetsB (pieceOf size it) (sv size one) = fitsP it size one := by
  cases it with
  | star => exact absurd rfl h
  | any => rfl
  | sign c =>
    simp only [meetsB, pieceOf, inEnds, fitsP, List.any_cons, List.any_nil, Bool.or_false, sv_le, Bool.bne_false]
    rw [Bool.eq_iff_iff]; simp only [Bool.and_eq_true, decide_eq_true_eq]; exact ⟨fun h => Nat.le_antisymm h.2 h.1, fun h => ⟨Nat.le_of_eq h.symm, Nat.le_of_eq h⟩⟩
  | br neg a b c =>
    simp only [meetsB, pieceOf, inEnds, fitsP, List.any_cons, List.any_nil, Bool.or_false, sv_le]
    congr 1
    rw [Bool.eq_iff_iff]; simp only [Bool.and_eq_true, Bool.or_eq_true, decide_eq_true_eq]; exact or_congr_right ⟨fun h => Nat.le_antisymm h.2 h.1, fun h => ⟨Nat.le_of_eq h.symm, Nat.le_of_eq h⟩⟩
/-- a run of items lies -/
def fitsAll (size : Nat) : List It → List Nat → Bool
  | [], _ => true
  | _ :: _, [] => false
  | it :: r, c :: xs => fitsP it size c && fitsAll size r xs
theorem lies_fits {size : Nat} : ∀ (r : List It) (xs : List Nat), (∀ it ∈ r, it ≠ .star) → liesB (r.map (pieceOf size)) (xs.map (sv size)) = fitsAll size r xs
  | [], _, _ => rfl
  | it :: r, [], _ => rfl
  | it :: r, c :: xs, h => by
    show (meetsB (pieceOf size it) (sv size c) && liesB (r.map (pieceOf size)) (xs.map (sv size))) = (fitsP it size c && fitsAll size r xs)
    rw [meets_fits (h it (by simp)), lies_fits r xs fun i hi => h i (by simp [hi])]
theorem fitsAll_len {size : Nat} : ∀ (r : List It) (xs : List Nat), fitsAll size r xs = true → r.length ≤ xs.length
  | [], _, _ => Nat.zero_le _
  | _ :: _, [], h => (Bool.false_ne_true h).elim
  | it :: r, c :: xs, h => by
    replace h : (fitsP it size c && fitsAll size r xs) = true := h
    rw [Bool.and_eq_true] at h
    exact Nat.succ_le_succ (fitsAll_len r xs h.2)
section
variable {name : List Nat} {size : Nat}
/-- pieces, from a set of places -/
theorem due_run : ∀ (r : List It) (S : Nat → Prop), (∀ it ∈ r, it ≠ .star) → ∀ n, (r.foldl (dueStep name size) S) n ↔ ∃ p, S p ∧ n = p + r.length ∧ (r = [] ∨ n ≤ name.length) ∧ fitsAll size r (name.drop p) = true
  | [], S, _, n => ⟨fun h => ⟨n, h, rfl, .inl rfl, rfl⟩, fun ⟨p, h, e, _⟩ => by rw [e]; exact h⟩
  | it :: r, S, h, n => by
    rw [List.foldl_cons, due_run r _ (fun i hi => h i (by simp [hi]))]
    have hs : ∀ q, dueStep name size S it q ↔ ∃ k, q = k + 1 ∧ k < name.length ∧ fitsP it size (name.getD k 0) = true ∧ S k := by
      intro q
      have h0 := h it (by simp)
      cases it with
      | star => exact absurd rfl h0
      | _ => exact Iff.rfl
    constructor
    · rintro ⟨p, hp, rfl, _, hf⟩
      obtain ⟨k, rfl, hk, hfit, hS⟩ := (hs p).mp hp
      have hd : name.drop k = name.getD k 0 :: name.drop (k + 1) := by
        rw [List.getD_eq_getElem?_getD, List.getElem?_eq_getElem hk, Option.getD_some]
        exact List.drop_eq_getElem_cons hk
      refine ⟨k, hS, Nat.succ_add_eq_add_succ k r.length, .inr ?_, ?_⟩
      · have := fitsAll_len _ _ hf
        rw [List.length_drop] at this
        rw [Nat.add_comm]; exact Nat.add_le_of_le_sub hk this
      · rw [hd]; show (fitsP it size (name.getD k 0) && fitsAll size r (name.drop (k + 1))) = true; rw [hfit, hf]; rfl
    · rintro ⟨p, hS, rfl, hn, hf⟩
      have hl := fitsAll_len _ _ hf
      rw [List.length_drop] at hl
      simp only [List.length_cons] at hl
      have hk : p < name.length := Nat.lt_of_sub_pos (Nat.lt_of_lt_of_le (Nat.succ_pos _) hl)
      have hd : name.drop p = name.getD p 0 :: name.drop (p + 1) := by
        rw [List.getD_eq_getElem?_getD, List.getElem?_eq_getElem hk, Option.getD_some]
        exact List.drop_eq_getElem_cons hk
      rw [hd] at hf
      replace hf : (fitsP it size (name.getD p 0) && fitsAll size r (name.drop (p + 1))) = true := hf
      rw [Bool.and_eq_true] at hf
      refine ⟨p + 1, (hs _).mpr ⟨p, rfl, hk, hf.1, hS⟩, (Nat.succ_add_eq_add_succ p r.length).symm, ?_, hf.2⟩
      right; exact hn.resolve_left (List.cons_ne_nil _ _)
theorem seek_spec {run : List Piece} {nm : List Nat} : ∀ (p : Nat), p ≤ seekP run nm p ∧ (seekP run nm p ≤ nm.length → liesB run (nm.drop (seekP run nm p)) = true) ∧ (∀ q, p ≤ q → q ≤ nm.length → liesB run (nm.drop q) = true → seekP run nm p ≤ q) := by
  have key : ∀ (f p : Nat), nm.length + 1 - p = f → p ≤ seekP run nm p ∧ (seekP run nm p ≤ nm.length → liesB run (nm.drop (seekP run nm p)) = true) ∧ (∀ q, p ≤ q → q ≤ nm.length → liesB run (nm.drop q) = true → seekP run nm p ≤ q) := by
    intro f
    induction f with
    | zero =>
      intro p hp
      have e : seekP run nm p = p := seekP_end fun z => absurd hp (Nat.ne_of_gt (Nat.sub_pos_of_lt (Nat.lt_succ_of_le z.1)))
      rw [e]
      exact ⟨Nat.le_refl _, fun h => absurd hp (Nat.ne_of_gt (Nat.sub_pos_of_lt (Nat.lt_succ_of_le h))), fun q h _ _ => h⟩
    | succ f ih =>
      intro p hp
      by_cases hc : p ≤ nm.length ∧ liesB run (nm.drop p) = false
      · rw [seekP_go hc.1 hc.2]
        obtain ⟨a, b, c⟩ := ih (p + 1) (by rw [Nat.succ_sub_succ]; exact Nat.succ.inj ((Nat.succ_sub hc.1).symm.trans hp))
        refine ⟨Nat.le_of_succ_le a, b, fun q hq hql hl => ?_⟩
        rcases Nat.lt_or_ge p q with h | h
        · exact c q h hql hl
        · have : p = q := Nat.le_antisymm hq h
          subst this
          rw [hc.2] at hl; cases hl
      · rw [seekP_end hc]
        refine ⟨Nat.le_refl _, fun h => ?_, fun q h _ _ => h⟩
        cases hl : liesB run (nm.drop p) with
        | true => rfl
        | false => exact absurd ⟨h, hl⟩ hc
  exact fun p => key _ p rfl
end
end Mine
end
section
open PySem PySem.W PyProof.Rows PySem.Calls
set_option Elab.async false
set_option maxRecDepth 100000
set_option maxHeartbeats 4000000
namespace Mine
def SpecTAt (w : World) (f : Addr) (vs : List Value) (D U : Nat) (h₀ : Heap) (P : Addr) (V : Heap → Obj → Prop) (R : List (Addr × Obj) → Value → Prop) (dp un : Nat) (fr : Option (List Env)) (gd : Option (List Code)) (s : Shared) (Q E : Value → Shared → Prop) (o : Obj) : Prop :=
  dp + D < recursionLimit → un + U < cLine → Kp h₀ s.heap → h₀.get? P = none → s.heap.get? P = some o → V s.heap o → (∀ v tl h' tk' o', (∀ b x, b ≠ P → s.heap.get? b = some x → h'.get? b = some x) → h'.get? P = some o' → V h' o' → (∀ p ∈ tl, h'.get? p.1 = some p.2 ∧ p.1 ≠ P ∧ s.heap.get? p.1 = none) → R tl v → Q v { s with heap := h', toks := tk' }) →
    wpAny (model MP w) (AA dp un fr gd) (call (.ref f) vs) Q E s
theorem specT_of {w : World} {f : Addr} {vs : List Value} {D U : Nat} {h₀ : Heap} {P : Addr} {V : Heap → Obj → Prop} {R : List (Addr × Obj) → Value → Prop} (H : ∀ dp un fr gd s Q E o, SpecTAt w f vs D U h₀ P V R dp un fr gd s Q E o) : SpecT w f vs D U h₀ P V R := by
  rintro ⟨hd, dp, fr, gd, un⟩ s Q E o hA hdp hun a b c d e
  cases hA
  exact H dp un fr gd s Q E o hdp hun a b c d e
def HBCTX (f : Addr) (w : World) (g : Heap) (L : Addr) (dp un : Nat) (fr : Option (List Env)) (gd : Option (List Code)) (s : Shared) (Q : Value → Shared → Prop) (binds : List (Str × Value)) (P : Addr) (o : Obj) (h₁ : Heap) (tk : Nat) (cells : List (Addr × Obj)) (body : List Stmt) (qual : Str) (scope : Scope) (cdv : Value) : Prop :=
  Fr g L h₁ (bindL (envOfC qual scope L f cdv).kindOf binds fun _ => none) → News g L h₁ cells → News g L h₁ [(P, o)] →
      CellsAre (bindC (envOfC qual scope L f cdv).kindOf binds fun _ => none) (cellsFrom (L + 1) scope.names []) cells →
      wpAny (model MP w) (AA (dp + 1) (un + 3) (fr.map (envOfC qual scope L f cdv :: ·)) gd) (execs body (envOfC qual scope L f cdv))
        (fun fl s' => Q (match fl with | .ret v => v | _ => .none) s') (fun _ _ => False) { s with heap := h₁, toks := tk }
def HBCT (K : Frag) (f : Addr) (w : World) (g : Heap) (L : Addr) (dp un : Nat) (fr : Option (List Env)) (gd : Option (List Code)) (s : Shared) (Q : Value → Shared → Prop) (binds : List (Str × Value)) (P : Addr) (o : Obj) (h₁ : Heap) (tk : Nat) : Prop :=
  ∀ (cells : List (Addr × Obj)) (oc : Value) (od : Option Addr) (osl : Array (Option Value)) (name qual : Str) (params : Arguments) (body : List Stmt) (scope : Scope) (dV kV doc pm : Value) (an : Option Addr) (cdv ct : Value),
    K.lookup f = some ⟨oc, od, .func (fnOf name qual params body scope dV kV doc pm an cdv ct), osl⟩ → HBCTX f w g L dp un fr gd s Q binds P o h₁ tk cells body qual scope cdv
noncomputable def HTCT (K : Frag) (f : Addr) (w : World) (g : Heap) (L : Addr) (dp un : Nat) (fr : Option (List Env)) (gd : Option (List Code)) (s : Shared) (Q : Value → Shared → Prop) (binds : List (Str × Value)) (P : Addr) (o : Obj) : Heap × Nat :=
  pick ⟨(default, 0)⟩ fun x => ¬ HBCT K f w g L dp un fr gd s Q binds P o x.1 x.2
section
variable {w : World} {K : Frag} {D U : Nat} {h₀ : Heap} {P : Addr} {V : Heap → Obj → Prop} {R : List (Addr × Obj) → Value → Prop} {p : Program} {loose : List Str} {mean : ExcName → Option Value} {mg mb : Str → Option Value}
  {name qual : Str} {params : Arguments} {body : List Stmt} {scope : Scope} {dV kV doc pm cdv ct oc : Value} {an od : Option Addr} {osl : Array (Option Value)} {f : Addr} {vals : List Value}
  {dp un : Nat} {fr : Option (List Env)} {gd : Option (List Code)} {s : Shared} {Q E : Value → Shared → Prop} {o : Obj}
theorem enterCTE (hdp : dp + D < recursionLimit) (hkp : Kp h₀ s.heap) (h0 : h₀.get? P = none) (hP : s.heap.get? P = some o) (hv : V s.heap o)
    (hQ : (∀ v tl h' tk' o', (∀ b x, b ≠ P → s.heap.get? b = some x → h'.get? b = some x) → h'.get? P = some o' → V h' o' → (∀ p ∈ tl, h'.get? p.1 = some p.2 ∧ p.1 ≠ P ∧ s.heap.get? p.1 = none) → R tl v → Q v { s with heap := h', toks := tk' }))
    (g : Heap) (hg : g = less s.heap [P]) (L : Addr) (hL : L = g.objs.size) (X : K.In h₀) (T : Top p loose mean mg mb h₀) (hV : ∀ h h' o, (∀ b x, b ≠ P → h.get? b = some x → h'.get? b = some x) → V h o → V h' o) (binds : List (Str × Value))
    (ho : K.lookup f = some ⟨oc, od, .func (fnOf name qual params body scope dV kV doc pm an cdv ct), osl⟩) (hcd : codeIn K cdv qual = true)
    (hbind : bindArgs (fnOf name qual params body scope dV kV doc pm an cdv ct) ⟨vals, []⟩ = pure binds)
    (hkind : (binds.all fun y => scope.names.lookup y.1 == some .local || scope.names.lookup y.1 == some .cell) = true)
    (hnd : ((cellsFrom 0 scope.names []).map (·.1)).Nodup)
    (hco : scope.isCoroutine = false) (hgen : scope.isGenerator = false) (hk : scope.kind = .function)
    (h₁ : Heap) (e₁ : h₁ = (HTCT K f w g L dp un fr gd s Q binds P o).1) (tk : Nat) (e₂ : tk = (HTCT K f w g L dp un fr gd s Q binds P o).2)
    (hb : ∀ cells, Kp h₀ g → K.In g → Top p loose mean mg mb g → g.get? P = none → P < L → V g o → (∀ v tl h' tk' o', Kp g h' → h'.get? P = some o' → V h' o' → (∀ p ∈ tl, h'.get? p.1 = some p.2 ∧ p.1 ≠ P ∧ g.get? p.1 = none) → R tl v → Q v { s with heap := h', toks := tk' }) → HBCTX f w g L dp un fr gd s Q binds P o h₁ tk cells body qual scope cdv) :
    wpAny (model MP w) (AA dp un fr gd) (call (.ref f) vals) Q E s := by
  have Xs := X.keeps hkp
  have Ts := T.keeps hkp
  have kg : Kp h₀ (less s.heap [P]) := fun b x e => less_get (hkp b x e) (by simp; rintro rfl; rw [h0] at e; cases e)
  have hPL : P < s.heap.objs.size := Heap.lt_size hP
  have hQ' : (∀ v tl h' tk' o', Kp g h' → h'.get? P = some o' → V h' o' → (∀ p ∈ tl, h'.get? p.1 = some p.2 ∧ p.1 ≠ P ∧ g.get? p.1 = none) → R tl v → Q v { s with heap := h', toks := tk' }) := fun v tl h' tk' o' k1 k2 k3 k4 k5 => hQ v tl h' tk' o' (fun b y hb e => k1 b y (hg ▸ less_get e (by simp [hb]))) k2 k3 (fun q hq => ⟨(k4 q hq).1, (k4 q hq).2.1, by
      cases e : s.heap.get? q.1 with
      | none => rfl
      | some y => have := less_get (fr := [P]) e (by simp [(k4 q hq).2.1]); rw [← hg, (k4 q hq).2.2] at this; cases this⟩) k5
  have key : ∀ x : Heap × Nat, HBCT K f w g L dp un fr gd s Q binds P o x.1 x.2 := by
    refine pickAll ⟨(default, 0)⟩ (P := fun x => HBCT K f w g L dp un fr gd s Q binds P o x.1 x.2) ?_
    intro cells' oc' od' osl' name' qual' params' body' scope' dV' kV' doc' pm' an' cdv' ct' ho'
    obtain ⟨q1, q2, q3, q4⟩ := fn_inj (ho'.symm.trans ho)
    rw [q1, q2, q3, q4]
    rw [e₁, e₂] at hb
    exact hb cells' (hg ▸ kg) (X.keeps (hg ▸ kg)) (T.keeps (hg ▸ kg)) (by rw [hg]; exact less_none (by simp)) (by rw [hL, hg, less_size]; exact hPL) (by rw [hg]; exact hV _ _ _ (fun b y hb e => less_get e (by simp [hb])) hv) hQ'
  have hLs : L = s.heap.objs.size := by rw [hL, hg, less_size]
  refine wpAny_noRaise (wpAny_call ?_)
  refine codeAny_call_cells (fd := fnOf name qual params body scope dV kV doc pm an cdv ct) (Nat.lt_of_le_of_lt (Nat.le_add_right _ _) hdp) (Xs _ _ ho) rfl Ts.nolimit (codeRec_of Xs hcd) rfl hbind rfl (kindsX hkind _) (fun s₁ x => ?_) hco hgen hk
  obtain ⟨h₁, tk, rfl, _⟩ := x.done
  obtain ⟨cells, NC, Y⟩ := Cl.news (h₀ := g) (by rw [hg, less_size]; exact Nat.le_refl _) fun n c hm => ⟨x.cell n c (lookup_of_mem_nodup (cellsFrom_names scope.names 0 (s.heap.objs.size + 1) [] [] rfl ▸ hnd) hm), x.above n c hm⟩
  subst hLs hg
  exact wpAny_mono (key (h₁, tk) cells _ _ _ _ _ _ _ _ _ _ _ _ _ _ _ ho ⟨x.toInCall.ns, fun b y e => x.toInCall.keep b y (of_less e), by rw [less_size]; exact x.toInCall.fresh⟩ NC
    (fun q hq => by rw [List.mem_singleton.mp hq]; exact ⟨x.toInCall.keep _ _ hP, Nat.ne_of_lt hPL, less_none (by simp)⟩) Y) (fun fl s' q => q) fun _ _ x => x.elim
end
end Mine
end
section
open PySem PySem.W PyProof.Rows PySem.Calls
set_option Elab.async false
set_option maxRecDepth 100000
set_option maxHeartbeats 2000000
namespace Mine
theorem sent_sv {size c : Nat} (h : size = 32 ∨ size = 128) : sent size c = sv size (c % size) := by
  rcases h with rfl | rfl
  · simp [sent, sv]
  · simp [sent, sv]; lia
/-- the text of an item -/
def itText (size : Nat) : It → List Nat
  | .star => [42]
  | .any => [63]
  | .sign c => [sv size (c % size)]
  | .br neg a b c => 91 :: ((if neg then [33] else []) ++ [sv size (min (a % size) (b % size)), 45, sv size (max (a % size) (b % size)), sv size (c % size), 93])
def patText (size : Nat) (its : List It) : List Nat := (its.map (itText size)).flatten
theorem itText_len {size : Nat} {it : It} : (itText size it).length ≤ 7 := by
  cases it with
  | br neg a b c => cases neg <;> simp [itText]
  | _ => simp [itText]
theorem patText_snoc {size i : Nat} {its : List It} {it : It} (h : its[i]? = some it) : patText size (its.take (i + 1)) = patText size (its.take i) ++ itText size it := by
  rw [take_snoc h]; simp [patText]
theorem patText_len {size : Nat} : ∀ (its : List It), (patText size its).length ≤ 7 * its.length
  | [] => by simp [patText]
  | it :: r => by
    have := patText_len (size := size) r
    have h2 := itText_len (size := size) (it := it)
    simp only [patText, List.map_cons, List.flatten_cons, List.length_append, List.length_cons] at *
    lia
theorem it_star {size : Nat} {x : List Nat} : txt x ++ It.front .star ++ txt [] = txt (x ++ itText size .star) := by
  rw [show It.front .star = txt [42] by decide, txt_add, txt_add, List.append_nil]; rfl
theorem it_any {size : Nat} {x : List Nat} : txt x ++ It.front .any ++ txt [] = txt (x ++ itText size .any) := by
  rw [show It.front .any = txt [63] by decide, txt_add, txt_add, List.append_nil]; rfl
theorem it_sign {size c : Nat} {x : List Nat} (h : size = 32 ∨ size = 128) : txt x ++ It.front (.sign c) ++ txt [sent size c] = txt (x ++ itText size (.sign c)) := by
  rw [show It.front (.sign c) = txt [] from (by decide : Str.ofString "" = txt []), txt_add, txt_add, List.append_nil, sent_sv h]; rfl
theorem it_br {size a b c p q : Nat} {neg : Bool} {x : List Nat} (h : size = 32 ∨ size = 128) (ho : (p = a ∧ q = b ∧ a % size ≤ b % size) ∨ (p = b ∧ q = a ∧ b % size ≤ a % size)) :
    txt x ++ It.front (.br neg a b c) ++ (Txt.item (txt [sent size p, sent size q, sent size c]) 0 ++ Str.ofString "-" ++ Txt.slice (txt [sent size p, sent size q, sent size c]) (some 1) none ++ Str.ofString "]") = txt (x ++ itText size (.br neg a b c)) := by
  have e1 : Txt.item (txt [sent size p, sent size q, sent size c]) 0 = txt [sent size p] := item_txt (k := 0) rfl
  have e2 : Txt.slice (txt [sent size p, sent size q, sent size c]) (some 1) none = txt [sent size q, sent size c] := slice_from _ 1
  have e3 : It.front (.br neg a b c) = txt (91 :: if neg then [33] else []) := by
    cases neg
    · exact (by decide : Str.ofString "[" = txt [91])
    · exact (by decide : Str.ofString "[!" = txt [91, 33])
  rw [e1, e2, e3, s45, s93, txt_add, txt_add, txt_add, txt_add, txt_add, sent_sv h, sent_sv h, sent_sv h, txt_inj]
  rcases ho with ⟨rfl, rfl, ho⟩ | ⟨rfl, rfl, ho⟩
  · have h1 : min (p % size) (q % size) = p % size := Nat.min_eq_left ho
    have h2 : max (p % size) (q % size) = q % size := Nat.max_eq_right ho
    simp only [itText, h1, h2]; cases neg <;> simp
  · have h1 : min (q % size) (p % size) = p % size := Nat.min_eq_right ho
    have h2 : max (q % size) (p % size) = q % size := Nat.max_eq_left ho
    simp only [itText, h1, h2]; cases neg <;> simp
/-- the item is written in bytes -/
def It.ok : It → Prop
  | .star | .any => True
  | .sign c => c < 256
  | .br _ a b c => a < 256 ∧ b < 256 ∧ c < 256
theorem code115 (w : World) {h : Heap} (X : (hd.heap_39 w.params).In h) : CodeHd h 115 113 := by
  w_top off
  refine fillG ?_
  k_fill
  intro _ _
  exact ⟨_, _, _, _, _, _, _, _, _, X _ _ (by k_is), rfl, rfl, rfl, rfl, rfl, rfl, rfl, rfl, by decide⟩
theorem nrot3 {h₀ h : Heap} {L : Addr} {a b c : Addr × Obj} {r : List (Addr × Obj)} (N : News h₀ L h (a :: b :: c :: r)) : News h₀ L h (c :: a :: b :: r) := fun q hq => N q (by
  simp only [List.mem_cons] at hq ⊢
  rcases hq with hq | hq | hq | hq <;> simp [hq])
theorem len_le {n : Nat} {xs : List Value} (h : xs.length = n) (hn : n ≤ 1000) : xs.length ≤ sizeLine := Nat.le_trans (h ▸ hn) (by decide)
abbrev lamV : Heap → Obj → Prop := TabV 113 139 38 (Str.ofString "_law_pattern.<locals>.<lambda>")
abbrev lamT (g : Heap) (L : Addr) (rest : List (Addr × Obj)) (o : Obj) : Prop := TabOk g L rest 139 38 (Str.ofString "_law_pattern.<locals>.<lambda>") o
inductive PJ (g : Heap) (L l : Addr) (o0 : Obj) (size : Nat) (its : List It) (i : Nat) (m : Str → Option Value) (news : List (Addr × Obj)) : Prop
  | mk (o : _) (extra : _) (h1 : m (Str.ofString "items") = some (.ref l)) (h2 : (∃ t, m (Str.ofString "text") = some (.str (txt (patText size (its.take i))) t))) (h3 : news = (113, o) :: (L + 1, o0) :: extra) (h4 : lamT g L ((L + 1, o0) :: extra) o) (h5 : (∀ p ∈ extra, p.1 ≠ 113)) (h6 : (∀ p ∈ extra, p.1 ≠ L + 1)) : PJ g L l o0 size its i m news

section
local macro_rules | `(tactic| walk_at "execs cons") => `(tactic| wtm_at "mXC")
local macro_rules | `(tactic| walk_at "call builtin:sorted") => `(tactic| wtm_at "mS")
local macro_rules | `(tactic| walk_at "eval ListComp") => `(tactic| wtm_at "mS")
local macro_rules | `(tactic| walk_at "execs nil") => `(tactic| wtm_at "mS")
local macro_rules | `(tactic| walk_at "eval Name") => `(tactic| wtm_at "mNC")

namespace K_S_pattern
def P (w : World) (h₀ : Heap) (its : List It) (size : Nat) (l : Addr) (ts : Tok) (vs : List Value) (dp : Nat) (un : Nat) (fr : Option (List Env)) (gd : Option (List Code)) (s : Shared) (Q : Value → Shared → Prop) (E : Value → Shared → Prop) (o : Obj) : Prop :=
  ∀ (hS : St w h₀) (hl : h₀.IsList l vs.toArray) (hall : All2 (ItAt h₀) vs its) (hok : ∀ it ∈ its, it.ok) (hlen : vs.length ≤ 10) (hsz : size = 32 ∨ size = 128), SpecTAt w 116 [.ref l, .int size ts] 10 900 h₀ 113 lamV (fun tl v => ∃ t, v = .str (txt (patText size its)) t) dp un fr gd s Q E o
theorem ne : Nonempty ((World) × (Heap) × (List It) × (Nat) × (Addr) × (Tok) × (List Value) × (Nat) × (Nat) × (Option (List Env)) × (Option (List Code)) × (Shared) × (Value → Shared → Prop) × (Value → Shared → Prop) × (Obj)) := ⟨(w0, Classical.ofNonempty, Classical.ofNonempty, Classical.ofNonempty, Classical.ofNonempty, Classical.ofNonempty, Classical.ofNonempty, Classical.ofNonempty, Classical.ofNonempty, Classical.ofNonempty, Classical.ofNonempty, {}, Classical.ofNonempty, Classical.ofNonempty, Classical.ofNonempty)⟩
noncomputable def κ : (World) × (Heap) × (List It) × (Nat) × (Addr) × (Tok) × (List Value) × (Nat) × (Nat) × (Option (List Env)) × (Option (List Code)) × (Shared) × (Value → Shared → Prop) × (Value → Shared → Prop) × (Obj) := pick ne fun c => ¬ P (c.1) (c.2.1) (c.2.2.1) (c.2.2.2.1) (c.2.2.2.2.1) (c.2.2.2.2.2.1) (c.2.2.2.2.2.2.1) (c.2.2.2.2.2.2.2.1) (c.2.2.2.2.2.2.2.2.1) (c.2.2.2.2.2.2.2.2.2.1) (c.2.2.2.2.2.2.2.2.2.2.1) (c.2.2.2.2.2.2.2.2.2.2.2.1) (c.2.2.2.2.2.2.2.2.2.2.2.2.1) (c.2.2.2.2.2.2.2.2.2.2.2.2.2.1) (c.2.2.2.2.2.2.2.2.2.2.2.2.2.2)
noncomputable def w : World := κ.1
noncomputable def h₀ : Heap := κ.2.1
noncomputable def its : List It := κ.2.2.1
noncomputable def size : Nat := κ.2.2.2.1
noncomputable def l : Addr := κ.2.2.2.2.1
noncomputable def ts : Tok := κ.2.2.2.2.2.1
noncomputable def vs : List Value := κ.2.2.2.2.2.2.1
noncomputable def dp : Nat := κ.2.2.2.2.2.2.2.1
noncomputable def un : Nat := κ.2.2.2.2.2.2.2.2.1
noncomputable def fr : Option (List Env) := κ.2.2.2.2.2.2.2.2.2.1
noncomputable def gd : Option (List Code) := κ.2.2.2.2.2.2.2.2.2.2.1
noncomputable def s : Shared := κ.2.2.2.2.2.2.2.2.2.2.2.1
noncomputable def Q : Value → Shared → Prop := κ.2.2.2.2.2.2.2.2.2.2.2.2.1
noncomputable def E : Value → Shared → Prop := κ.2.2.2.2.2.2.2.2.2.2.2.2.2.1
noncomputable def o : Obj := κ.2.2.2.2.2.2.2.2.2.2.2.2.2.2
noncomputable def g : Heap := less s.heap [113]
noncomputable def L : Addr := Heap.objs g |>.size
noncomputable def h₁  : Heap := (HTCT (hd.heap_39 w.params) 116 w g L dp un fr gd s Q [(Str.ofString "items", .ref l), (Str.ofString "size", .int size ts)] 113 o).1
noncomputable def tk  : Nat := (HTCT (hd.heap_39 w.params) 116 w g L dp un fr gd s Q [(Str.ofString "items", .ref l), (Str.ofString "size", .int size ts)] 113 o).2
noncomputable def pre : PSigma fun T : (Obj) → (Heap) → (Nat) → (Str → Option Value) → (Heap) → (Nat) → (Addr) → (Obj) → (Obj) → (List (Addr × Obj)) → (Tok) → (It) → (Addr) → (Addr) → (List Value) → (Tok) → (List Nat) → Prop => (∀ o0 hz i m₁ h3 tk3 I oI o' extra t it a li vc tf x, T o0 hz i m₁ h3 tk3 I oI o' extra t it a li vc tf x) → P w h₀ its size l ts vs dp un fr gd s Q E o := ⟨_, fun turn => by
  intro hS hl hall hok hlen hsz hdp hun hkp0 h00 hP0 hv0 hQ0
  w_top off
  refine fillG ?_
  k_fill
  intro _ _
  obtain ⟨X, T⟩ := St.top hS
  refine' enterCTE (K := hd.heap_39 w.params) hdp hkp0 h00 hP0 hv0 hQ0 g rfl L rfl X T TabV.keeps [(Str.ofString "items", .ref l), (Str.ofString "size", .int size ts)] ?k3 ?k4 ?k6 ?k7 ?k8 ?k9 ?k10 ?k11 h₁ rfl tk rfl ?_
  case k3 => k_is
  case k4 => k_is
  case k6 => exact rfl
  case k7 => exact rfl
  case k8 => decide
  case k9 => exact rfl
  case k10 => exact rfl
  case k11 => exact rfl
  intro cells hkp Xg Tg hgP hPL hV hQ F N NP hC
  have hL : L = g.objs.size := rfl
  have hpos : 0 < size := by rcases hsz with q | q <;> rw [q] <;> decide
  replace hC : CellsAre _ [(Str.ofString "size", L + 1)] cells := hC
  obtain ⟨o0, rfl, d0⟩ := CellsAre.one hC
  replace F : Fr g L h₁ (fun y => if y = Str.ofString "items" then some (.ref l) else none) := F
  replace d0 : o0.data = .cell (some (.int size ts)) := d0
  have N2 : News g L h₁ [(113, o), (L + 1, o0)] := fun q hq => by
    rcases List.mem_cons.mp hq with rfl | hq
    · exact NP _ (.head _)
    · exact N _ hq
  have hS' : St w g := ⟨Xg, _, _, _, _, _, Tg⟩
  have hlg : g.IsList l vs.toArray := islist_keeps hl hkp
  have hC113 : CodeHd g 115 113 := code115 w Xg
  have hdep : (AA (dp + 1) (un + 3) fr gd).depth < recursionLimit := by show dp + 1 < _; lia
  clear N NP hC hS
  k_steps
  repeat' ((first | ((with_reducible refine Stop.ref ?_); (first | refine use_spec1 (S_sent _ _ _ _ _ _ stK (by assumption)) rfl (by first | exact bud (by assumption) (by rfl) | exact bud0 (by assumption) (by rfl) | (dsimp only [AA]; lia)) (by first | exact bud (by assumption) (by rfl) | exact bud0 (by assumption) (by rfl) | (dsimp only [AA]; lia)) (by assumption) (by assumption) ?_); intro _ _ _ _ _)); (try k_steps))
  unfold Stop
  (with_reducible rename Fr _ _ _ _ => Fx)
  rename Heap => hz
  refine my_for Fx (by rfl) (by intro _; rfl) (fun _ _ _ _ _ _ hit q => go_tuple hit q) ?_
  walk1
  refine ⟨l, vs, PJ g L l o0 size its, _, rfl, by assumption, by assumption, ?first, ?src, ?turn, ?last⟩
  case first => exact ⟨o, [], (by repeat (first | with_reducible assumption | with_reducible exact if_pos rfl | refine (if_neg (by decide)).trans ?_ | rfl)), ⟨_, (by repeat (first | with_reducible assumption | with_reducible exact if_pos rfl | refine (if_neg (by decide)).trans ?_ | rfl))⟩, rfl, hV.ok.mono (fun _ h => nomatch h), off_nil, off_nil⟩
  case src =>
    rintro i m news _
    exact .inl hlg
  case last =>
    intro m₁ news₁ h3 tk3 hq1 F3 N3
    (try k_fold)
    obtain ⟨o', extra, mi, ⟨t, mt⟩, rfl, htab, off1, off2⟩ := hq1
    clear Fx
    have hall1 := hall.1
    rw [List.take_of_length_le (by lia)] at mt
    k_steps
    repeat' ((first | ((with_reducible refine Stop.ref ?_); (first | refine use_spec1 (S_sent _ _ _ _ _ _ stK (by assumption)) rfl (by first | exact bud (by assumption) (by rfl) | exact bud0 (by assumption) (by rfl) | (dsimp only [AA]; lia)) (by first | exact bud (by assumption) (by rfl) | exact bud0 (by assumption) (by rfl) | (dsimp only [AA]; lia)) (by assumption) (by assumption) ?_); intro _ _ _ _ _)); (try k_steps))
    have V' := htab.v (P := 113) (by assumption) (by assumption)
    exact hQ _ [] _ _ _ (kp_of (by assumption)) ((by assumption : News g L _ _) _ (.head _)).1 V' (fun _ h => nomatch h) ⟨_, rfl⟩
  intro i v m₁ news₁ h3 tk3 I oI hv hq2 F3 N3 off3
  obtain ⟨o', extra, mi, ⟨t, mt⟩, rfl, htab, offA, offB⟩ := hq2
  obtain ⟨it, hit, a, li, vc, tf, rfl, hia, hil, hic⟩ := hall.get hv
  have hok' := hok it (List.mem_of_getElem? hit)
  have hts := patText_snoc (size := size) hit
  have hxl : (txt (patText size (its.take i))).length ≤ 100 := by
    have h1 := patText_len (size := size) (its.take i)
    have h2 := hall.1
    rw [txt_length]; rw [List.length_take] at h1; lia
  have hia3 := islist_keeps (islist_keeps hia hkp) F3.keep
  have hil3 := islist_keeps hil hkp
  have n2 : @Ne Nat (L + 1) I := off3 _ (.tail _ (.head _))
  have n3 : @Ne Nat 113 I := off3 _ (.head _)
  have offI : ∀ p ∈ extra, p.1 ≠ I := fun p hp => off3 p (.tail _ (.tail _ hp))
  have q1 : @Ne Nat (L + 1) 113 := Nat.ne_of_gt (Nat.lt_succ_of_lt hPL)
  clear Fx off3
  generalize patText size (its.take i) = x at *
  (try dsimp +zetaDelta only)
  revert hok hlen hsz hdp hun hkp Xg Tg hgP hPL hpos d0 hS' hlg hC113 hdep F3 mi htab offA offB N3 hit hia hil hic hok' hia3 hil3 n2 n3 offI q1 mt hts hxl
  exact turn o0 hz i m₁ h3 tk3 I oI o' extra t it a li vc tf x⟩
namespace T1
theorem ne : Nonempty ((Obj) × (Heap) × (Nat) × (Str → Option Value) × (Heap) × (Nat) × (Addr) × (Obj) × (Obj) × (List (Addr × Obj)) × (Tok) × (Addr) × (Addr) × (Tok) × (List Nat)) := ⟨(Classical.ofNonempty, Classical.ofNonempty, Classical.ofNonempty, Classical.ofNonempty, Classical.ofNonempty, Classical.ofNonempty, Classical.ofNonempty, Classical.ofNonempty, Classical.ofNonempty, Classical.ofNonempty, Classical.ofNonempty, Classical.ofNonempty, Classical.ofNonempty, Classical.ofNonempty, Classical.ofNonempty)⟩
noncomputable def κ : (Obj) × (Heap) × (Nat) × (Str → Option Value) × (Heap) × (Nat) × (Addr) × (Obj) × (Obj) × (List (Addr × Obj)) × (Tok) × (Addr) × (Addr) × (Tok) × (List Nat) := pick ne fun c => ¬ ∀ it vc, pre.1 (c.1) (c.2.1) (c.2.2.1) (c.2.2.2.1) (c.2.2.2.2.1) (c.2.2.2.2.2.1) (c.2.2.2.2.2.2.1) (c.2.2.2.2.2.2.2.1) (c.2.2.2.2.2.2.2.2.1) (c.2.2.2.2.2.2.2.2.2.1) (c.2.2.2.2.2.2.2.2.2.2.1) it (c.2.2.2.2.2.2.2.2.2.2.2.1) (c.2.2.2.2.2.2.2.2.2.2.2.2.1) vc (c.2.2.2.2.2.2.2.2.2.2.2.2.2.1) (c.2.2.2.2.2.2.2.2.2.2.2.2.2.2)
noncomputable def o0 : Obj := κ.1
noncomputable def hz : Heap := κ.2.1
noncomputable def i : Nat := κ.2.2.1
noncomputable def m₁ : Str → Option Value := κ.2.2.2.1
noncomputable def h3 : Heap := κ.2.2.2.2.1
noncomputable def tk3 : Nat := κ.2.2.2.2.2.1
noncomputable def I : Addr := κ.2.2.2.2.2.2.1
noncomputable def oI : Obj := κ.2.2.2.2.2.2.2.1
noncomputable def o' : Obj := κ.2.2.2.2.2.2.2.2.1
noncomputable def extra : List (Addr × Obj) := κ.2.2.2.2.2.2.2.2.2.1
noncomputable def t : Tok := κ.2.2.2.2.2.2.2.2.2.2.1
noncomputable def a : Addr := κ.2.2.2.2.2.2.2.2.2.2.2.1
noncomputable def li : Addr := κ.2.2.2.2.2.2.2.2.2.2.2.2.1
noncomputable def tf : Tok := κ.2.2.2.2.2.2.2.2.2.2.2.2.2.1
noncomputable def x : List Nat := κ.2.2.2.2.2.2.2.2.2.2.2.2.2.2
theorem turn : ∀ it vc, pre.1 o0 hz i m₁ h3 tk3 I oI o' extra t it a li vc tf x := by
  intro it vc
  w_top off
  refine fillG ?_
  k_fill
  intro _ _
  intro hok hlen hsz hdp hun hkp Xg Tg hgP hPL hpos d0 hS' hlg hC113 hdep F3 mi htab offA offB N3 hit hia hil hic hok' hia3 hil3 n2 n3 offI q1 mt hts hxl
  (try k_fold)
  cases it with
  | star =>
    have hil3 : g.IsList li #[] := by cases hic; exact hil3
    k_steps
    repeat' ((first | ((with_reducible refine Stop.ref ?_); (first | refine use_spec1 (S_sent _ _ _ _ _ _ stK (by assumption)) rfl (by first | exact bud (by assumption) (by rfl) | exact bud0 (by assumption) (by rfl) | (dsimp only [AA]; lia)) (by first | exact bud (by assumption) (by rfl) | exact bud0 (by assumption) (by rfl) | (dsimp only [AA]; lia)) (by assumption) (by assumption) ?_); intro _ _ _ _ _)); (try k_steps))
    unfold Stop
    refine kla_eval rfl ?_
    (with_reducible rename Fr _ _ _ _ => Fa)
    (with_reducible rename News _ _ _ _ => Na)
    (repeat (with_reducible rename _ ∧ _ => qq; have zq1 := And.left qq; have zq2 := And.right qq; clear qq))
    refine lam_step (P := 113) (rest0 := (L + 1, o0) :: extra) Fa (nrot3 Na) Tg hC113 rfl htab (off_cons (Nat.ne_of_gt (by assumption)) (off_cons (Ne.symm n3) (off_cons q1 offA))) rfl ?_
    clear Fa Na
    intro f c' ctv h5 tk5 xs F5 N5 lf lxs lxf hcd5
    have offA' : ∀ p ∈ extra ++ xs, p.1 ≠ 113 := off_app offA fun p hp => Nat.ne_of_gt (lxs _ (.head _) p hp)
    have offB' : ∀ p ∈ extra ++ xs, p.1 ≠ L + 1 := off_app offB fun p hp => Nat.ne_of_gt (lxs _ (.tail _ (.tail _ (.tail _ (.head _)))) p hp)
    have offI' : ∀ p ∈ extra ++ xs, p.1 ≠ I := off_app offI fun p hp => Nat.ne_of_gt (lxs _ (.tail _ (.tail _ (.head _))) p hp)
    have V5 : lamT g L ((L + 1, o0) :: (extra ++ xs)) _ := .inr ⟨c', rfl, hcd5⟩
    try dsimp only at N5
    k_steps
    repeat' ((first | ((with_reducible refine Stop.ref ?_); (first | refine use_spec1 (S_sent _ _ _ _ _ _ stK (by assumption)) rfl (by first | exact bud (by assumption) (by rfl) | exact bud0 (by assumption) (by rfl) | (dsimp only [AA]; lia)) (by first | exact bud (by assumption) (by rfl) | exact bud0 (by assumption) (by rfl) | (dsimp only [AA]; lia)) (by assumption) (by assumption) ?_); intro _ _ _ _ _)); (try k_steps))
    unfold Stop
    (with_reducible rename Fr _ _ _ _ => Fb)
    (with_reducible rename News _ _ _ _ => Nb)
    refine lam_sort0 Fb Nb (News.isList Nb (List.Mem.tail _ (List.Mem.tail _ (List.Mem.head _)))) ?_
    clear Fb Nb
    intro D6 c6 h6 tk6 F6 N6 l6
    k_steps
    repeat' ((first | ((with_reducible refine Stop.ref ?_); (first | refine use_spec1 (S_sent _ _ _ _ _ _ stK (by assumption)) rfl (by first | exact bud (by assumption) (by rfl) | exact bud0 (by assumption) (by rfl) | (dsimp only [AA]; lia)) (by first | exact bud (by assumption) (by rfl) | exact bud0 (by assumption) (by rfl) | (dsimp only [AA]; lia)) (by assumption) (by assumption) ?_); intro _ _ _ _ _)); (try k_steps))
    unfold Stop
    (with_reducible rename Fr _ _ _ _ => Fb)
    refine my_comp_list0 Fb (by rfl) (by with_unfolding_all rfl) (by decide) (by rfl) (by decide) (by intro _; rfl) (by intro _ _; rfl) ?_
    walk1
    refine ex4 _ [] _ (fun j ys news => news = _ ∧ ys.length ≤ j ∧ StrsAre ys (([].take j).map fun c => [sent size c])) ⟨rfl, ⟨by assumption, by assumption, len_le rfl (Nat.le_of_ble_eq_true rfl), ⟨rfl, Nat.le_refl _, All2.nil⟩, ?_, ?_⟩, ?_⟩
    · intro j ys news hq3
      (try k_fold)
      obtain ⟨rfl, hy, _⟩ := hq3
      exact ⟨hy, .inr ⟨_, .head _, rfl, _, rfl⟩⟩
    · rintro j v ys news C oC D I' oI' h7 tk7 hv7
      exact absurd hv7 (by simp)
    · intro D ys news h8 tk8 hq4 F8 N8 off8
      (try k_fold)
      obtain ⟨rfl, hy8, hs8⟩ := hq4
      clear Fb
      k_steps
      repeat' ((first | ((with_reducible refine Stop.ref ?_); (first | refine use_spec1 (S_sent _ _ _ _ _ _ stK (by assumption)) rfl (by first | exact bud (by assumption) (by rfl) | exact bud0 (by assumption) (by rfl) | (dsimp only [AA]; lia)) (by first | exact bud (by assumption) (by rfl) | exact bud0 (by assumption) (by rfl) | (dsimp only [AA]; lia)) (by assumption) (by assumption) ?_); intro _ _ _ _ _)); (try k_steps))
      unfold Stop
      have hs8' : StrsAre ys [] := hs8
      refine join_call (sp := []) (News.isList (by assumption) (List.Mem.head _)) hs8' (by simp) ?_
      intro tk9 t9
      rw [show joinL [] ([] : List (List Nat)) = [] from rfl]
      have hl3 : (txt []).length = 0 := txt_length
      have hfl : (It.front (.star)).length ≤ 3 := (by decide)
      k_steps
      repeat' ((first | ((with_reducible refine Stop.ref ?_); (first | refine use_spec1 (S_sent _ _ _ _ _ _ stK (by assumption)) rfl (by first | exact bud (by assumption) (by rfl) | exact bud0 (by assumption) (by rfl) | (dsimp only [AA]; lia)) (by first | exact bud (by assumption) (by rfl) | exact bud0 (by assumption) (by rfl) | (dsimp only [AA]; lia)) (by assumption) (by assumption) ?_); intro _ _ _ _ _)); (try k_steps))
      all_goals first
        | (exfalso; lia)
        | (unfold Stop
           (with_reducible rename Fr _ _ _ _ => Fz)
           (with_reducible rename News _ _ _ _ => Nz)
           rw [it_star (size := size), ← hts] at Fz
           refine wpAny_execs_nil ?_
           unfold FPost
           exact FEnd.mk (news' := _ :: (L + 1, o0) :: (extra ++ xs)) Fz Nz (sub_cons (by repeat (first | exact List.Mem.head _ | refine List.Mem.tail _ ?_)) (sub_cons (by repeat (first | exact List.Mem.head _ | refine List.Mem.tail _ ?_)) (sub_cons (by repeat (first | exact List.Mem.head _ | refine List.Mem.tail _ ?_)) (fun p hp => by repeat (first | exact hp | refine List.Mem.tail _ ?_))))) (off_cons n3 (off_cons n2 offI')) ⟨_, extra ++ xs, (by repeat (first | with_reducible assumption | with_reducible exact if_pos rfl | refine (if_neg (by decide)).trans ?_ | rfl)), ⟨_, (by repeat (first | with_reducible assumption | with_reducible exact if_pos rfl | refine (if_neg (by decide)).trans ?_ | rfl))⟩, rfl, V5, offA', offB'⟩)
  | any =>
    have hil3 : g.IsList li #[] := by cases hic; exact hil3
    k_steps
    repeat' ((first | ((with_reducible refine Stop.ref ?_); (first | refine use_spec1 (S_sent _ _ _ _ _ _ stK (by assumption)) rfl (by first | exact bud (by assumption) (by rfl) | exact bud0 (by assumption) (by rfl) | (dsimp only [AA]; lia)) (by first | exact bud (by assumption) (by rfl) | exact bud0 (by assumption) (by rfl) | (dsimp only [AA]; lia)) (by assumption) (by assumption) ?_); intro _ _ _ _ _)); (try k_steps))
    unfold Stop
    refine kla_eval rfl ?_
    (with_reducible rename Fr _ _ _ _ => Fa)
    (with_reducible rename News _ _ _ _ => Na)
    (repeat (with_reducible rename _ ∧ _ => qq; have zq1 := And.left qq; have zq2 := And.right qq; clear qq))
    refine lam_step (P := 113) (rest0 := (L + 1, o0) :: extra) Fa (nrot3 Na) Tg hC113 rfl htab (off_cons (Nat.ne_of_gt (by assumption)) (off_cons (Ne.symm n3) (off_cons q1 offA))) rfl ?_
    clear Fa Na
    intro f c' ctv h5 tk5 xs F5 N5 lf lxs lxf hcd5
    have offA' : ∀ p ∈ extra ++ xs, p.1 ≠ 113 := off_app offA fun p hp => Nat.ne_of_gt (lxs _ (.head _) p hp)
    have offB' : ∀ p ∈ extra ++ xs, p.1 ≠ L + 1 := off_app offB fun p hp => Nat.ne_of_gt (lxs _ (.tail _ (.tail _ (.tail _ (.head _)))) p hp)
    have offI' : ∀ p ∈ extra ++ xs, p.1 ≠ I := off_app offI fun p hp => Nat.ne_of_gt (lxs _ (.tail _ (.tail _ (.head _))) p hp)
    have V5 : lamT g L ((L + 1, o0) :: (extra ++ xs)) _ := .inr ⟨c', rfl, hcd5⟩
    try dsimp only at N5
    k_steps
    repeat' ((first | ((with_reducible refine Stop.ref ?_); (first | refine use_spec1 (S_sent _ _ _ _ _ _ stK (by assumption)) rfl (by first | exact bud (by assumption) (by rfl) | exact bud0 (by assumption) (by rfl) | (dsimp only [AA]; lia)) (by first | exact bud (by assumption) (by rfl) | exact bud0 (by assumption) (by rfl) | (dsimp only [AA]; lia)) (by assumption) (by assumption) ?_); intro _ _ _ _ _)); (try k_steps))
    unfold Stop
    (with_reducible rename Fr _ _ _ _ => Fb)
    (with_reducible rename News _ _ _ _ => Nb)
    refine lam_sort0 Fb Nb (News.isList Nb (List.Mem.tail _ (List.Mem.tail _ (List.Mem.head _)))) ?_
    clear Fb Nb
    intro D6 c6 h6 tk6 F6 N6 l6
    k_steps
    repeat' ((first | ((with_reducible refine Stop.ref ?_); (first | refine use_spec1 (S_sent _ _ _ _ _ _ stK (by assumption)) rfl (by first | exact bud (by assumption) (by rfl) | exact bud0 (by assumption) (by rfl) | (dsimp only [AA]; lia)) (by first | exact bud (by assumption) (by rfl) | exact bud0 (by assumption) (by rfl) | (dsimp only [AA]; lia)) (by assumption) (by assumption) ?_); intro _ _ _ _ _)); (try k_steps))
    unfold Stop
    (with_reducible rename Fr _ _ _ _ => Fb)
    refine my_comp_list0 Fb (by rfl) (by with_unfolding_all rfl) (by decide) (by rfl) (by decide) (by intro _; rfl) (by intro _ _; rfl) ?_
    walk1
    refine ex4 _ [] _ (fun j ys news => news = _ ∧ ys.length ≤ j ∧ StrsAre ys (([].take j).map fun c => [sent size c])) ⟨rfl, ⟨by assumption, by assumption, len_le rfl (Nat.le_of_ble_eq_true rfl), ⟨rfl, Nat.le_refl _, All2.nil⟩, ?_, ?_⟩, ?_⟩
    · intro j ys news hq5
      (try k_fold)
      obtain ⟨rfl, hy, _⟩ := hq5
      exact ⟨hy, .inr ⟨_, .head _, rfl, _, rfl⟩⟩
    · rintro j v ys news C oC D I' oI' h7 tk7 hv7
      exact absurd hv7 (by simp)
    · intro D ys news h8 tk8 hq6 F8 N8 off8
      (try k_fold)
      obtain ⟨rfl, hy8, hs8⟩ := hq6
      clear Fb
      k_steps
      repeat' ((first | ((with_reducible refine Stop.ref ?_); (first | refine use_spec1 (S_sent _ _ _ _ _ _ stK (by assumption)) rfl (by first | exact bud (by assumption) (by rfl) | exact bud0 (by assumption) (by rfl) | (dsimp only [AA]; lia)) (by first | exact bud (by assumption) (by rfl) | exact bud0 (by assumption) (by rfl) | (dsimp only [AA]; lia)) (by assumption) (by assumption) ?_); intro _ _ _ _ _)); (try k_steps))
      unfold Stop
      have hs8' : StrsAre ys [] := hs8
      refine join_call (sp := []) (News.isList (by assumption) (List.Mem.head _)) hs8' (by simp) ?_
      intro tk9 t9
      rw [show joinL [] ([] : List (List Nat)) = [] from rfl]
      have hl3 : (txt []).length = 0 := txt_length
      have hfl : (It.front (.any)).length ≤ 3 := (by decide)
      k_steps
      repeat' ((first | ((with_reducible refine Stop.ref ?_); (first | refine use_spec1 (S_sent _ _ _ _ _ _ stK (by assumption)) rfl (by first | exact bud (by assumption) (by rfl) | exact bud0 (by assumption) (by rfl) | (dsimp only [AA]; lia)) (by first | exact bud (by assumption) (by rfl) | exact bud0 (by assumption) (by rfl) | (dsimp only [AA]; lia)) (by assumption) (by assumption) ?_); intro _ _ _ _ _)); (try k_steps))
      all_goals first
        | (exfalso; lia)
        | (unfold Stop
           (with_reducible rename Fr _ _ _ _ => Fz)
           (with_reducible rename News _ _ _ _ => Nz)
           rw [it_any (size := size), ← hts] at Fz
           refine wpAny_execs_nil ?_
           unfold FPost
           exact FEnd.mk (news' := _ :: (L + 1, o0) :: (extra ++ xs)) Fz Nz (sub_cons (by repeat (first | exact List.Mem.head _ | refine List.Mem.tail _ ?_)) (sub_cons (by repeat (first | exact List.Mem.head _ | refine List.Mem.tail _ ?_)) (sub_cons (by repeat (first | exact List.Mem.head _ | refine List.Mem.tail _ ?_)) (fun p hp => by repeat (first | exact hp | refine List.Mem.tail _ ?_))))) (off_cons n3 (off_cons n2 offI')) ⟨_, extra ++ xs, (by repeat (first | with_reducible assumption | with_reducible exact if_pos rfl | refine (if_neg (by decide)).trans ?_ | rfl)), ⟨_, (by repeat (first | with_reducible assumption | with_reducible exact if_pos rfl | refine (if_neg (by decide)).trans ?_ | rfl))⟩, rfl, V5, offA', offB'⟩)
  | sign c1 =>
    rcases hic with _ | ⟨_, tc, r3⟩
    cases r3
    replace hil3 : g.IsList li #[.int (c1 : Int) tc] := hil3
    have hoc : c1 < 256 := hok'
    k_steps
    repeat' ((first | ((with_reducible refine Stop.ref ?_); (first | refine use_spec1 (S_sent _ _ _ _ _ _ stK (by assumption)) rfl (by first | exact bud (by assumption) (by rfl) | exact bud0 (by assumption) (by rfl) | (dsimp only [AA]; lia)) (by first | exact bud (by assumption) (by rfl) | exact bud0 (by assumption) (by rfl) | (dsimp only [AA]; lia)) (by assumption) (by assumption) ?_); intro _ _ _ _ _)); (try k_steps))
    unfold Stop
    refine kla_eval rfl ?_
    (with_reducible rename Fr _ _ _ _ => Fa)
    (with_reducible rename News _ _ _ _ => Na)
    (repeat (with_reducible rename _ ∧ _ => qq; have zq1 := And.left qq; have zq2 := And.right qq; clear qq))
    refine lam_step (P := 113) (rest0 := (L + 1, o0) :: extra) Fa (nrot3 Na) Tg hC113 rfl htab (off_cons (Nat.ne_of_gt (by assumption)) (off_cons (Ne.symm n3) (off_cons q1 offA))) rfl ?_
    clear Fa Na
    intro f c' ctv h5 tk5 xs F5 N5 lf lxs lxf hcd5
    have offA' : ∀ p ∈ extra ++ xs, p.1 ≠ 113 := off_app offA fun p hp => Nat.ne_of_gt (lxs _ (.head _) p hp)
    have offB' : ∀ p ∈ extra ++ xs, p.1 ≠ L + 1 := off_app offB fun p hp => Nat.ne_of_gt (lxs _ (.tail _ (.tail _ (.tail _ (.head _)))) p hp)
    have offI' : ∀ p ∈ extra ++ xs, p.1 ≠ I := off_app offI fun p hp => Nat.ne_of_gt (lxs _ (.tail _ (.tail _ (.head _))) p hp)
    have V5 : lamT g L ((L + 1, o0) :: (extra ++ xs)) _ := .inr ⟨c', rfl, hcd5⟩
    try dsimp only at N5
    k_steps
    repeat' ((first | ((with_reducible refine Stop.ref ?_); (first | refine use_spec1 (S_sent _ _ _ _ _ _ stK (by assumption)) rfl (by first | exact bud (by assumption) (by rfl) | exact bud0 (by assumption) (by rfl) | (dsimp only [AA]; lia)) (by first | exact bud (by assumption) (by rfl) | exact bud0 (by assumption) (by rfl) | (dsimp only [AA]; lia)) (by assumption) (by assumption) ?_); intro _ _ _ _ _)); (try k_steps))
    unfold Stop
    (with_reducible rename Fr _ _ _ _ => Fb)
    (with_reducible rename News _ _ _ _ => Nb)
    refine lam_sort1 Fb Nb Tg (News.isList Nb (List.Mem.tail _ (List.Mem.tail _ (List.Mem.head _)))) (List.Mem.head _) (hcd5.mono fun p hp => .tail _ (.tail _ (.tail _ (.tail _ hp)))) (oC := o0) (by simp) d0 (by lia) hdep rfl (fun _ => rfl) ?_
    clear Fb Nb
    intro D6 c6 h6 tk6 F6 N6 l6
    k_steps
    repeat' ((first | ((with_reducible refine Stop.ref ?_); (first | refine use_spec1 (S_sent _ _ _ _ _ _ stK (by assumption)) rfl (by first | exact bud (by assumption) (by rfl) | exact bud0 (by assumption) (by rfl) | (dsimp only [AA]; lia)) (by first | exact bud (by assumption) (by rfl) | exact bud0 (by assumption) (by rfl) | (dsimp only [AA]; lia)) (by assumption) (by assumption) ?_); intro _ _ _ _ _)); (try k_steps))
    unfold Stop
    (with_reducible rename Fr _ _ _ _ => Fb)
    refine my_comp_list0 Fb (by rfl) (by with_unfolding_all rfl) (by decide) (by rfl) (by decide) (by intro _; rfl) (by intro _ _; rfl) ?_
    walk1
    refine ex4 _ [.int (c1 : Int) tc] _ (fun j ys news => news = _ ∧ ys.length ≤ j ∧ StrsAre ys (([c1].take j).map fun c => [sent size c])) ⟨rfl, ⟨by assumption, by assumption, len_le rfl (Nat.le_of_ble_eq_true rfl), ⟨rfl, Nat.le_refl _, All2.nil⟩, ?_, ?_⟩, ?_⟩
    · intro j ys news hq7
      (try k_fold)
      obtain ⟨rfl, hy, _⟩ := hq7
      exact ⟨hy, .inr ⟨_, .head _, rfl, _, rfl⟩⟩
    · intro j v ys news C oC D I' oI' h7 tk7 hv7 hq8 cs hoff
      (try k_fold)
      obtain ⟨rfl, hy7, hs7⟩ := hq8
      have hes : IntsAre [.int (c1 : Int) tc] ([c1].map fun c : Nat => (c : Int)) := .cons _ _ .nil
      obtain ⟨e, te, rfl, he⟩ := ints_at hes hv7
      have hem := List.mem_of_getElem? he
      have he256 : e < 256 := by
        simp only [List.mem_cons, List.not_mem_nil, or_false] at hem
        rw [hem]; assumption
      refine comp_name rfl rfl cs ?_
      intro h8 tk8 oC8 mC8 cs8 ho8 hm8
      obtain ⟨F8, N8, off8, cd8, _⟩ := cs8
      clear cs Fb
      k_steps
      repeat' ((first | ((with_reducible refine Stop.ref ?_); (first | refine use_spec1 (S_sent _ _ _ _ _ _ stK (by assumption)) rfl (by first | exact bud (by assumption) (by rfl) | exact bud0 (by assumption) (by rfl) | (dsimp only [AA]; lia)) (by first | exact bud (by assumption) (by rfl) | exact bud0 (by assumption) (by rfl) | (dsimp only [AA]; lia)) (by assumption) (by assumption) ?_); intro _ _ _ _ _)); (try k_steps))
      refine CEndI.mk (by assumption) (by assumption) off8 cd8 ho8 hoff ⟨rfl, by rw [List.length_append]; exact Nat.succ_le_succ hy7, ?_⟩
      rw [take_snoc he, List.map_append]
      exact hs7.snoc
    · intro D ys news h8 tk8 hq9 F8 N8 off8
      (try k_fold)
      obtain ⟨rfl, hy8, hs8⟩ := hq9
      clear Fb
      k_steps
      repeat' ((first | ((with_reducible refine Stop.ref ?_); (first | refine use_spec1 (S_sent _ _ _ _ _ _ stK (by assumption)) rfl (by first | exact bud (by assumption) (by rfl) | exact bud0 (by assumption) (by rfl) | (dsimp only [AA]; lia)) (by first | exact bud (by assumption) (by rfl) | exact bud0 (by assumption) (by rfl) | (dsimp only [AA]; lia)) (by assumption) (by assumption) ?_); intro _ _ _ _ _)); (try k_steps))
      unfold Stop
      have hs8' : StrsAre ys [[sent size c1]] := hs8
      refine join_call (sp := []) (News.isList (by assumption) (List.Mem.head _)) hs8' (by simp) ?_
      intro tk9 t9
      rw [show joinL [] ([[sent size c1]] : List (List Nat)) = [sent size c1] from rfl]
      have hl3 : (txt [sent size c1]).length = 1 := txt_length
      have hfl : (It.front (.sign c1)).length ≤ 3 := (by decide : (Str.ofString "").length ≤ 3)
      k_steps
      repeat' ((first | ((with_reducible refine Stop.ref ?_); (first | refine use_spec1 (S_sent _ _ _ _ _ _ stK (by assumption)) rfl (by first | exact bud (by assumption) (by rfl) | exact bud0 (by assumption) (by rfl) | (dsimp only [AA]; lia)) (by first | exact bud (by assumption) (by rfl) | exact bud0 (by assumption) (by rfl) | (dsimp only [AA]; lia)) (by assumption) (by assumption) ?_); intro _ _ _ _ _)); (try k_steps))
      all_goals first
        | (exfalso; lia)
        | (unfold Stop
           (with_reducible rename Fr _ _ _ _ => Fz)
           (with_reducible rename News _ _ _ _ => Nz)
           rw [it_sign hsz, ← hts] at Fz
           refine wpAny_execs_nil ?_
           unfold FPost
           exact FEnd.mk (news' := _ :: (L + 1, o0) :: (extra ++ xs)) Fz Nz (sub_cons (by repeat (first | exact List.Mem.head _ | refine List.Mem.tail _ ?_)) (sub_cons (by repeat (first | exact List.Mem.head _ | refine List.Mem.tail _ ?_)) (sub_cons (by repeat (first | exact List.Mem.head _ | refine List.Mem.tail _ ?_)) (fun p hp => by repeat (first | exact hp | refine List.Mem.tail _ ?_))))) (off_cons n3 (off_cons n2 offI')) ⟨_, extra ++ xs, (by repeat (first | with_reducible assumption | with_reducible exact if_pos rfl | refine (if_neg (by decide)).trans ?_ | rfl)), ⟨_, (by repeat (first | with_reducible assumption | with_reducible exact if_pos rfl | refine (if_neg (by decide)).trans ?_ | rfl))⟩, rfl, V5, offA', offB'⟩)
  | br neg a1 b1 c1 =>
    rcases hic with _ | ⟨_, ta, r1⟩
    rcases r1 with _ | ⟨_, tb, r2⟩
    rcases r2 with _ | ⟨_, tc, r3⟩
    cases r3
    replace hil3 : g.IsList li #[.int (a1 : Int) ta, .int (b1 : Int) tb, .int (c1 : Int) tc] := hil3
    obtain ⟨hoa, hob, hoc⟩ := hok'
    k_steps
    repeat' ((first | ((with_reducible refine Stop.ref ?_); (first | refine use_spec1 (S_sent _ _ _ _ _ _ stK (by assumption)) rfl (by first | exact bud (by assumption) (by rfl) | exact bud0 (by assumption) (by rfl) | (dsimp only [AA]; lia)) (by first | exact bud (by assumption) (by rfl) | exact bud0 (by assumption) (by rfl) | (dsimp only [AA]; lia)) (by assumption) (by assumption) ?_); intro _ _ _ _ _)); (try k_steps))
    unfold Stop
    refine kla_eval rfl ?_
    (with_reducible rename Fr _ _ _ _ => Fa)
    (with_reducible rename News _ _ _ _ => Na)
    (repeat (with_reducible rename _ ∧ _ => qq; have zq1 := And.left qq; have zq2 := And.right qq; clear qq))
    refine lam_step (P := 113) (rest0 := (L + 1, o0) :: extra) Fa (nrot3 Na) Tg hC113 rfl htab (off_cons (Nat.ne_of_gt (by assumption)) (off_cons (Ne.symm n3) (off_cons q1 offA))) rfl ?_
    clear Fa Na
    intro f c' ctv h5 tk5 xs F5 N5 lf lxs lxf hcd5
    have offA' : ∀ p ∈ extra ++ xs, p.1 ≠ 113 := off_app offA fun p hp => Nat.ne_of_gt (lxs _ (.head _) p hp)
    have offB' : ∀ p ∈ extra ++ xs, p.1 ≠ L + 1 := off_app offB fun p hp => Nat.ne_of_gt (lxs _ (.tail _ (.tail _ (.tail _ (.head _)))) p hp)
    have offI' : ∀ p ∈ extra ++ xs, p.1 ≠ I := off_app offI fun p hp => Nat.ne_of_gt (lxs _ (.tail _ (.tail _ (.head _))) p hp)
    have V5 : lamT g L ((L + 1, o0) :: (extra ++ xs)) _ := .inr ⟨c', rfl, hcd5⟩
    try dsimp only at N5
    k_steps
    repeat' ((first | ((with_reducible refine Stop.ref ?_); (first | refine use_spec1 (S_sent _ _ _ _ _ _ stK (by assumption)) rfl (by first | exact bud (by assumption) (by rfl) | exact bud0 (by assumption) (by rfl) | (dsimp only [AA]; lia)) (by first | exact bud (by assumption) (by rfl) | exact bud0 (by assumption) (by rfl) | (dsimp only [AA]; lia)) (by assumption) (by assumption) ?_); intro _ _ _ _ _)); (try k_steps))
    unfold Stop
    (with_reducible rename Fr _ _ _ _ => Fb)
    (with_reducible rename News _ _ _ _ => Nb)
    refine lam_sort Fb Nb Tg (News.isList Nb (List.Mem.tail _ (List.Mem.tail _ (List.Mem.head _)))) (List.Mem.head _) (hcd5.mono fun p hp => .tail _ (.tail _ (.tail _ (.tail _ hp)))) (oC := o0) (by simp) d0 (by lia) hdep rfl (fun _ => rfl) ?_
    clear Fb Nb
    intro D6 c6 h6 tk6 cx cy tx ty hxy F6 N6 l6
    have hcx : cx < 256 := by rcases hxy with ⟨rfl, _⟩ | ⟨rfl, _⟩ <;> assumption
    have hcy : cy < 256 := by rcases hxy with ⟨_, rfl, _⟩ | ⟨_, rfl, _⟩ <;> assumption
    k_steps
    repeat' ((first | ((with_reducible refine Stop.ref ?_); (first | refine use_spec1 (S_sent _ _ _ _ _ _ stK (by assumption)) rfl (by first | exact bud (by assumption) (by rfl) | exact bud0 (by assumption) (by rfl) | (dsimp only [AA]; lia)) (by first | exact bud (by assumption) (by rfl) | exact bud0 (by assumption) (by rfl) | (dsimp only [AA]; lia)) (by assumption) (by assumption) ?_); intro _ _ _ _ _)); (try k_steps))
    unfold Stop
    (with_reducible rename Fr _ _ _ _ => Fb)
    refine my_comp_list0 Fb (by rfl) (by with_unfolding_all rfl) (by decide) (by rfl) (by decide) (by intro _; rfl) (by intro _ _; rfl) ?_
    walk1
    refine ex4 _ [.int (cx : Int) tx, .int (cy : Int) ty, .int (c1 : Int) tc] _ (fun j ys news => news = _ ∧ ys.length ≤ j ∧ StrsAre ys (([cx, cy, c1].take j).map fun c => [sent size c])) ⟨rfl, ⟨by assumption, by assumption, len_le rfl (Nat.le_of_ble_eq_true rfl), ⟨rfl, Nat.le_refl _, All2.nil⟩, ?_, ?_⟩, ?_⟩
    · intro j ys news hq10
      (try k_fold)
      obtain ⟨rfl, hy, _⟩ := hq10
      exact ⟨hy, .inr ⟨_, .head _, rfl, _, rfl⟩⟩
    · intro j v ys news C oC D I' oI' h7 tk7 hv7 hq11 cs hoff
      (try k_fold)
      obtain ⟨rfl, hy7, hs7⟩ := hq11
      have hes : IntsAre [.int (cx : Int) tx, .int (cy : Int) ty, .int (c1 : Int) tc] ([cx, cy, c1].map fun c : Nat => (c : Int)) := .cons _ _ (.cons _ _ (.cons _ _ .nil))
      obtain ⟨e, te, rfl, he⟩ := ints_at hes hv7
      have hem := List.mem_of_getElem? he
      have he256 : e < 256 := by
        simp only [List.mem_cons, List.not_mem_nil, or_false] at hem
        rcases hem with rfl | rfl | rfl <;> assumption
      refine comp_name rfl rfl cs ?_
      intro h8 tk8 oC8 mC8 cs8 ho8 hm8
      obtain ⟨F8, N8, off8, cd8, _⟩ := cs8
      clear cs Fb
      k_steps
      repeat' ((first | ((with_reducible refine Stop.ref ?_); (first | refine use_spec1 (S_sent _ _ _ _ _ _ stK (by assumption)) rfl (by first | exact bud (by assumption) (by rfl) | exact bud0 (by assumption) (by rfl) | (dsimp only [AA]; lia)) (by first | exact bud (by assumption) (by rfl) | exact bud0 (by assumption) (by rfl) | (dsimp only [AA]; lia)) (by assumption) (by assumption) ?_); intro _ _ _ _ _)); (try k_steps))
      refine CEndI.mk (by assumption) (by assumption) off8 cd8 ho8 hoff ⟨rfl, by rw [List.length_append]; exact Nat.succ_le_succ hy7, ?_⟩
      rw [take_snoc he, List.map_append]
      exact hs7.snoc
    · intro D ys news h8 tk8 hq12 F8 N8 off8
      (try k_fold)
      obtain ⟨rfl, hy8, hs8⟩ := hq12
      clear Fb
      k_steps
      repeat' ((first | ((with_reducible refine Stop.ref ?_); (first | refine use_spec1 (S_sent _ _ _ _ _ _ stK (by assumption)) rfl (by first | exact bud (by assumption) (by rfl) | exact bud0 (by assumption) (by rfl) | (dsimp only [AA]; lia)) (by first | exact bud (by assumption) (by rfl) | exact bud0 (by assumption) (by rfl) | (dsimp only [AA]; lia)) (by assumption) (by assumption) ?_); intro _ _ _ _ _)); (try k_steps))
      unfold Stop
      have hs8' : StrsAre ys [[sent size cx], [sent size cy], [sent size c1]] := hs8
      refine join_call (sp := []) (News.isList (by assumption) (List.Mem.head _)) hs8' (by simp) ?_
      intro tk9 t9
      rw [show joinL [] ([[sent size cx], [sent size cy], [sent size c1]] : List (List Nat)) = [sent size cx, sent size cy, sent size c1] from rfl]
      have hl3 : (txt [sent size cx, sent size cy, sent size c1]).length = 3 := txt_length
      have hfl : (It.front (.br neg a1 b1 c1)).length ≤ 3 := (by cases neg; exact (by decide : (Str.ofString "[").length ≤ 3); exact (by decide : (Str.ofString "[!").length ≤ 3))
      k_steps
      repeat' ((first | ((with_reducible refine Stop.ref ?_); (first | refine use_spec1 (S_sent _ _ _ _ _ _ stK (by assumption)) rfl (by first | exact bud (by assumption) (by rfl) | exact bud0 (by assumption) (by rfl) | (dsimp only [AA]; lia)) (by first | exact bud (by assumption) (by rfl) | exact bud0 (by assumption) (by rfl) | (dsimp only [AA]; lia)) (by assumption) (by assumption) ?_); intro _ _ _ _ _)); (try k_steps))
      all_goals first
        | (exfalso; lia)
        | (unfold Stop
           (with_reducible rename Fr _ _ _ _ => Fz)
           (with_reducible rename News _ _ _ _ => Nz)
           rw [it_br hsz hxy, ← hts] at Fz
           refine wpAny_execs_nil ?_
           unfold FPost
           exact FEnd.mk (news' := _ :: (L + 1, o0) :: (extra ++ xs)) Fz Nz (sub_cons (by repeat (first | exact List.Mem.head _ | refine List.Mem.tail _ ?_)) (sub_cons (by repeat (first | exact List.Mem.head _ | refine List.Mem.tail _ ?_)) (sub_cons (by repeat (first | exact List.Mem.head _ | refine List.Mem.tail _ ?_)) (fun p hp => by repeat (first | exact hp | refine List.Mem.tail _ ?_))))) (off_cons n3 (off_cons n2 offI')) ⟨_, extra ++ xs, (by repeat (first | with_reducible assumption | with_reducible exact if_pos rfl | refine (if_neg (by decide)).trans ?_ | rfl)), ⟨_, (by repeat (first | with_reducible assumption | with_reducible exact if_pos rfl | refine (if_neg (by decide)).trans ?_ | rfl))⟩, rfl, V5, offA', offB'⟩)
end T1
theorem core : P w h₀ its size l ts vs dp un fr gd s Q E o := pre.2 fun o0 hz i m₁ h3 tk3 I oI o' extra t it a li vc tf x => pickAll T1.ne (P := fun c => ∀ it vc, pre.1 (c.1) (c.2.1) (c.2.2.1) (c.2.2.2.1) (c.2.2.2.2.1) (c.2.2.2.2.2.1) (c.2.2.2.2.2.2.1) (c.2.2.2.2.2.2.2.1) (c.2.2.2.2.2.2.2.2.1) (c.2.2.2.2.2.2.2.2.2.1) (c.2.2.2.2.2.2.2.2.2.2.1) it (c.2.2.2.2.2.2.2.2.2.2.2.1) (c.2.2.2.2.2.2.2.2.2.2.2.2.1) vc (c.2.2.2.2.2.2.2.2.2.2.2.2.2.1) (c.2.2.2.2.2.2.2.2.2.2.2.2.2.2)) T1.turn (o0, hz, i, m₁, h3, tk3, I, oI, o', extra, t, a, li, tf, x) it vc
end K_S_pattern
theorem S_pattern (w : World) (h₀ : Heap) (its : List It) (size : Nat) (l : Addr) (ts : Tok) (hS : St w h₀) (vs : List Value) (hl : h₀.IsList l vs.toArray) (hall : All2 (ItAt h₀) vs its) (hok : ∀ it ∈ its, it.ok) (hlen : vs.length ≤ 10) (hsz : size = 32 ∨ size = 128) :
    SpecT w 116 [.ref l, .int size ts] 10 900 h₀ 113 lamV (fun tl v => ∃ t, v = .str (txt (patText size its)) t) :=
  specT_of fun dp un fr gd s Q E o => pickAll K_S_pattern.ne (P := fun c => K_S_pattern.P (c.1) (c.2.1) (c.2.2.1) (c.2.2.2.1) (c.2.2.2.2.1) (c.2.2.2.2.2.1) (c.2.2.2.2.2.2.1) (c.2.2.2.2.2.2.2.1) (c.2.2.2.2.2.2.2.2.1) (c.2.2.2.2.2.2.2.2.2.1) (c.2.2.2.2.2.2.2.2.2.2.1) (c.2.2.2.2.2.2.2.2.2.2.2.1) (c.2.2.2.2.2.2.2.2.2.2.2.2.1) (c.2.2.2.2.2.2.2.2.2.2.2.2.2.1) (c.2.2.2.2.2.2.2.2.2.2.2.2.2.2)) K_S_pattern.core (w, h₀, its, size, l, ts, vs, dp, un, fr, gd, s, Q, E, o) hS hl hall hok hlen hsz
end
end Mine
end
section
open PySem PySem.W PyProof.Rows PySem.Calls
set_option Elab.async false
set_option maxRecDepth 100000
set_option maxHeartbeats 4000000
namespace Mine
def joinS : List (List It) → List It
  | [] => []
  | [r] => r
  | r :: r2 :: rest => r ++ It.star :: joinS (r2 :: rest)
theorem joinS_cons {r : List It} {x : List (List It)} {z : List It} : joinS (r :: (x ++ [z])) = r ++ It.star :: joinS (x ++ [z]) := by
  cases x <;> rfl
def noStar (r : List It) : Prop := ∀ it ∈ r, it ≠ .star
section
variable {name : List Nat} {size : Nat}
theorem due_mid : ∀ (mids : List (List It)) (z : List It) (p : Nat) (S : Nat → Prop), (∀ r ∈ mids, noStar r) → noStar z → (∀ n, S n ↔ p ≤ n ∧ n ≤ name.length) →
    (((joinS (mids ++ [z])).foldl (dueStep name size) S) name.length ↔
      (midP (name.map (sv size)) (mids.map fun r => r.map (pieceOf size)) p + z.length ≤ name.length ∧ liesB (z.map (pieceOf size)) ((name.map (sv size)).drop (name.length - z.length)) = true))
  | [], z, p, S, _, hz, hS => by
    show ((z.foldl (dueStep name size) S) name.length ↔ _)
    rw [due_run z S hz, ← List.map_drop, lies_fits z _ hz]
    show _ ↔ (p + z.length ≤ name.length ∧ _)
    constructor
    · rintro ⟨q, hq, he, _, hf⟩
      obtain ⟨h1, h2⟩ := (hS q).mp hq
      have e : name.length - z.length = q := Nat.sub_eq_of_eq_add he
      rw [e]
      exact ⟨he ▸ Nat.add_le_add_right h1 _, hf⟩
    · rintro ⟨h1, hf⟩
      exact ⟨name.length - z.length, (hS _).mpr ⟨Nat.le_sub_of_add_le h1, Nat.sub_le _ _⟩, (Nat.sub_add_cancel (Nat.le_trans (Nat.le_add_left _ _) h1)).symm, .inr (Nat.le_refl _), hf⟩
  | r :: mids, z, p, S, hm, hz, hS => by
    rw [List.cons_append, joinS_cons, List.foldl_append, List.foldl_cons]
    have hr := hm r (.head _)
    have hlen : (name.map (sv size)).length = name.length := by simp
    obtain ⟨s1, s2, s3⟩ := seek_spec (run := r.map (pieceOf size)) (nm := name.map (sv size)) p
    generalize hk : seekP (r.map (pieceOf size)) (name.map (sv size)) p = k at s1 s2 s3
    have hT : ∀ n, dueStep name size (r.foldl (dueStep name size) S) .star n ↔ k + r.length ≤ n ∧ n ≤ name.length := by
      intro n
      show (n ≤ name.length ∧ ∃ m, m ≤ n ∧ (r.foldl (dueStep name size) S) m) ↔ _
      constructor
      · rintro ⟨hn, m, hmn, hm'⟩
        obtain ⟨q, hq, rfl, _, hf⟩ := (due_run r S hr m).mp hm'
        obtain ⟨h1, h2⟩ := (hS q).mp hq
        have := s3 q h1 (by rw [hlen]; exact h2) (by rw [← List.map_drop, lies_fits r _ hr]; exact hf)
        exact ⟨by lia, hn⟩
      · rintro ⟨hk1, hn⟩
        have hl := s2 (by rw [hlen]; lia)
        rw [← List.map_drop, lies_fits r _ hr] at hl
        exact ⟨hn, k + r.length, hk1, (due_run r S hr _).mpr ⟨k, (hS k).mpr ⟨s1, by lia⟩, rfl, .inr (by lia), hl⟩⟩
    rw [due_mid mids z (k + r.length) _ (fun r' h' => hm r' (.tail _ h')) hz hT]
    have e : midP (name.map (sv size)) ((r :: mids).map fun r => r.map (pieceOf size)) p = midP (name.map (sv size)) (mids.map fun r => r.map (pieceOf size)) (k + r.length) := by
      simp [midP, hk]
    rw [e]
theorem law_runs {runs : List (List It)} (hne : runs ≠ []) (hns : ∀ r ∈ runs, noStar r) :
    takesB (runs.map fun r => r.map (pieceOf size)) (name.map (sv size)) = true ↔ dueSet name size (joinS runs) name.length := by
  have hlen : (name.map (sv size)).length = name.length := by simp
  match runs, hne, hns with
  | [r], _, hns =>
    have hr := hns r (.head _)
    show (liesB (r.map (pieceOf size)) (name.map (sv size)) && decide ((r.map (pieceOf size)).length = (name.map (sv size)).length)) = true ↔ (r.foldl (dueStep name size) (fun n => n = 0)) name.length
    rw [due_run r _ hr, lies_fits r _ hr, Bool.and_eq_true, decide_eq_true_eq, hlen, List.length_map]
    constructor
    · rintro ⟨a, b⟩
      exact ⟨0, rfl, by lia, .inr (Nat.le_refl _), a⟩
    · rintro ⟨p, rfl, b, _, a⟩
      exact ⟨a, by lia⟩
  | r :: r2 :: rest, _, hns =>
    have hr := hns r (.head _)
    obtain ⟨mids, z, hmz⟩ : ∃ mids z, r2 :: rest = mids ++ [z] := ⟨(r2 :: rest).dropLast, (r2 :: rest).getLast (List.cons_ne_nil _ _), (List.dropLast_concat_getLast (List.cons_ne_nil _ _)).symm⟩
    have hm : ∀ r ∈ mids, noStar r := fun r' h' => hns r' (.tail _ (by rw [hmz]; exact List.mem_append_left _ h'))
    have hz : noStar z := hns z (.tail _ (by rw [hmz]; exact List.mem_append_right _ (.head _)))
    have e1 : takesB ((r :: r2 :: rest).map fun r => r.map (pieceOf size)) (name.map (sv size)) =
        (liesB (r.map (pieceOf size)) (name.map (sv size)) && (decide (midP (name.map (sv size)) (mids.map fun r => r.map (pieceOf size)) r.length + z.length ≤ name.length) && liesB (z.map (pieceOf size)) ((name.map (sv size)).drop (name.length - z.length)))) := by
      have g : ∀ (l : List (List Piece)) (hl : l ≠ []) (m' : List (List Piece)) (z' : List Piece), l = m' ++ [z'] → l.dropLast = m' ∧ l.getLast hl = z' := by
        rintro l hl m' z' rfl
        exact ⟨by simp, by simp⟩
      obtain ⟨g1, g2⟩ := g ((r2 :: rest).map fun r => r.map (pieceOf size)) (by simp) (mids.map fun r => r.map (pieceOf size)) (z.map (pieceOf size)) (by rw [hmz]; simp)
      have g2' : (r2.map (pieceOf size) :: rest.map fun r => r.map (pieceOf size)).getLast (by simp) = z.map (pieceOf size) := g2
      show (liesB _ _ && (let zz := (List.map _ (r2 :: rest)).getLast _; decide (midP _ (List.map _ (r2 :: rest)).dropLast _ + zz.length ≤ _) && liesB zz _)) = _
      simp only [g1, g2, g2', hlen, List.length_map]
    have e2 : joinS (r :: r2 :: rest) = r ++ It.star :: joinS (mids ++ [z]) := by rw [hmz]; exact joinS_cons
    rw [e1, e2, dueSet, List.foldl_append, List.foldl_cons, Bool.and_eq_true, Bool.and_eq_true, decide_eq_true_eq, lies_fits r _ hr]
    by_cases hf : fitsAll size r name = true
    · have hT : ∀ n, dueStep name size (r.foldl (dueStep name size) fun n => n = 0) .star n ↔ r.length ≤ n ∧ n ≤ name.length := by
        intro n
        show (n ≤ name.length ∧ ∃ m, m ≤ n ∧ (r.foldl (dueStep name size) _) m) ↔ _
        constructor
        · rintro ⟨hn, m, hmn, hm'⟩
          obtain ⟨q, rfl, rfl, _, _⟩ := (due_run r _ hr m).mp hm'
          exact ⟨by lia, hn⟩
        · rintro ⟨h1, hn⟩
          exact ⟨hn, r.length, h1, (due_run r _ hr _).mpr ⟨0, rfl, by lia, .inr (by lia), hf⟩⟩
      rw [due_mid mids z r.length _ hm hz hT]
      exact ⟨fun h => h.2, fun h => ⟨hf, h⟩⟩
    · have hT : ∀ n, dueStep name size (r.foldl (dueStep name size) fun n => n = 0) .star n ↔ name.length + 1 ≤ n ∧ n ≤ name.length := by
        intro n
        show (n ≤ name.length ∧ ∃ m, m ≤ n ∧ (r.foldl (dueStep name size) _) m) ↔ _
        constructor
        · rintro ⟨hn, m, hmn, hm'⟩
          obtain ⟨q, rfl, rfl, _, hf'⟩ := (due_run r _ hr m).mp hm'
          exact absurd hf' hf
        · rintro ⟨h1, hn⟩; lia
      rw [due_mid mids z (name.length + 1) _ hm hz hT]
      constructor
      · rintro ⟨h, _⟩; exact absurd h hf
      · rintro ⟨h, _⟩
        exfalso
        have mono : ∀ (l : List (List Piece)) (p : Nat), p ≤ midP (name.map (sv size)) l p := by
          intro l
          induction l with
          | nil => exact fun p => Nat.le_refl _
          | cons a l ih =>
            intro p
            have := (seek_spec (run := a) (nm := name.map (sv size)) p).1
            have h2 := ih (seekP a (name.map (sv size)) p + a.length)
            show p ≤ midP _ l (seekP a (name.map (sv size)) p + a.length)
            lia
        have := mono (mids.map fun r => r.map (pieceOf size)) (name.length + 1)
        lia
/-- rows of stars -/
def comp : List It → List It := fun its => its.foldl (fun acc it => match it, acc.getLast? with | .star, some .star => acc | it, _ => acc ++ [it]) []
theorem star_star {S : Nat → Prop} : dueStep name size (dueStep name size S .star) .star = dueStep name size S .star := by
  funext n
  refine propext ⟨?_, ?_⟩
  · rintro ⟨hn, m, hm, _, q, hq, hs⟩
    exact ⟨hn, q, by lia, hs⟩
  · rintro ⟨hn, m, hm, hs⟩
    exact ⟨hn, n, Nat.le_refl _, hn, m, hm, hs⟩
theorem comp_due (its : List It) : dueSet name size (comp its) = dueSet name size its := by
  have key : ∀ (its acc : List It), dueSet name size (its.foldl (fun acc it => match it, acc.getLast? with | .star, some .star => acc | it, _ => acc ++ [it]) acc) = its.foldl (dueStep name size) (dueSet name size acc) := by
    intro its
    induction its with
    | nil => intro acc; rfl
    | cons it r ih =>
      intro acc
      rw [List.foldl_cons, List.foldl_cons, ih]
      congr 1
      split
      · rename_i e
        obtain ⟨l, rfl⟩ : ∃ l, acc = l ++ [It.star] := by
          refine ⟨acc.dropLast, ?_⟩
          have hne : acc ≠ [] := by rintro rfl; simp at e
          rw [List.getLast?_eq_some_getLast hne] at e
          rw [← Option.some.inj e, List.dropLast_concat_getLast]
        rw [dueSet_snoc, star_star]
      · exact dueSet_snoc
  exact key its []
end
def splitS : List It → List (List It)
  | [] => [[]]
  | .star :: r => [] :: splitS r
  | it :: r => match splitS r with
    | h :: t => (it :: h) :: t
    | [] => [[it]]
theorem splitS_two {it : It} {x : List (List It)} : (match x with | h :: t => (it :: h) :: t | [] => [[it]]) ≠ ([] : List (List It)) := by cases x <;> exact nofun
theorem splitS_ne : ∀ l, splitS l ≠ []
  | [] => nofun
  | .star :: r => nofun
  | .any :: r => splitS_two
  | .sign c :: r => splitS_two
  | .br neg a b c :: r => splitS_two
theorem splitS_pc {it : It} (h : it ≠ .star) (r : List It) : splitS (it :: r) = match splitS r with | h :: t => (it :: h) :: t | [] => [[it]] := by
  cases it with
  | star => exact absurd rfl h
  | _ => rfl
theorem joinS_split : ∀ l, joinS (splitS l) = l ∧ ∀ r ∈ splitS l, noStar r
  | [] => ⟨rfl, fun x hx i hi => by rw [List.mem_singleton.mp hx] at hi; exact nomatch hi⟩
  | it :: r => by
    obtain ⟨h1, h2⟩ := joinS_split r
    have hne := splitS_ne r
    by_cases hs : it = .star
    · subst hs
      show joinS ([] :: splitS r) = _ ∧ ∀ x ∈ [] :: splitS r, noStar x
      cases hq : splitS r with
      | nil => exact absurd hq hne
      | cons a t =>
        rw [hq] at h1 h2
        refine ⟨?_, ?_⟩
        · show [] ++ It.star :: joinS (a :: t) = _
          rw [h1]; rfl
        · intro x hx
          rcases List.mem_cons.mp hx with rfl | hx
          · simp [noStar]
          · exact h2 x hx
    · rw [splitS_pc hs]
      cases hq : splitS r with
      | nil => exact absurd hq hne
      | cons a t =>
        rw [hq] at h1 h2
        refine ⟨?_, ?_⟩
        · cases t with
          | nil => show it :: a = _; rw [← h1]; rfl
          | cons b t => show (it :: a) ++ It.star :: joinS (b :: t) = _; rw [← h1]; rfl
        · intro x hx
          rcases List.mem_cons.mp hx with rfl | hx
          · intro y hy
            rcases List.mem_cons.mp hy with rfl | hy
            · exact hs
            · exact h2 a (by simp) y hy
          · exact h2 x (by simp [hx])
/-- the law in plain words -/
theorem plain_law {name : List Nat} {size : Nat} (its : List It) : takesB ((splitS (comp its)).map fun r => r.map (pieceOf size)) (name.map (sv size)) = true ↔ dueSet name size its name.length := by
  rw [law_runs (splitS_ne _) (joinS_split _).2, (joinS_split _).1, comp_due]
end Mine
end
section
open PySem PySem.W PyProof.Rows PySem.Calls PySem.Builtin.Str PySem.StrLaws
set_option Elab.async false
set_option maxRecDepth 100000
set_option maxHeartbeats 4000000
namespace Mine
theorem at_iff {l : List Nat} {c hi i : Nat} (hhi : hi ≤ l.length) : At (txt l) (txt [c]) hi i ↔ i + 1 ≤ hi ∧ l[i]? = some c := by
  have h1 : (txt [c]).length = 1 := txt_length
  unfold At
  rw [h1]
  have h2 := subAt_one (txt l) c i
  rw [txt_cps] at h2
  constructor
  · rintro ⟨a, b⟩
    exact ⟨a, h2.mp ⟨by rw [txt_length]; show i + 1 ≤ _; lia, b⟩⟩
  · rintro ⟨a, b⟩
    exact ⟨a, (h2.mpr b).2⟩
theorem occ_empty {l : List Nat} {c limit : Nat} (hl : 1 ≤ limit) (hc : c ∉ l) : occurrences (txt l) (txt [c]) 0 l.length limit = [] := by
  rw [occ_eq]
  rcases occ_first (txt l) (txt [c]) l.length limit hl (List.range' 0 (l.length + 1 - 0)) 0 (fun i _ => Nat.zero_le _) with ⟨h, _⟩ | ⟨pre, a, post, _, _, ha, _⟩
  · rw [h]
  · exact absurd (List.mem_of_getElem? ((at_iff (Nat.le_refl _)).mp ha).2) hc
theorem occ_at {l : List Nat} {c lo hi : Nat} (hhi : hi ≤ l.length) (hlo : lo + 1 ≤ hi) (hc : l[lo]? = some c) : ∃ r, occurrences (txt l) (txt [c]) lo hi 1 = lo :: r := by
  rw [occ_eq]
  have hr : List.range' lo (hi + 1 - lo) = lo :: List.range' (lo + 1) (hi - lo) := by
    rw [show hi + 1 - lo = (hi - lo) + 1 from Nat.succ_sub (Nat.le_of_succ_le hlo), List.range'_succ]
  have hA : At (txt l) (txt [c]) hi lo := (at_iff hhi).mpr ⟨hlo, hc⟩
  rcases occ_first (txt l) (txt [c]) hi 1 (Nat.le_refl _) (List.range' lo (hi + 1 - lo)) lo (fun i h => (List.mem_range'_1.mp h).1) with ⟨_, h⟩ | ⟨pre, a, post, e, h0, _, hn⟩
  · exact absurd hA (h lo (by rw [hr]; exact List.mem_cons_self))
  · cases pre with
    | cons b r =>
      rw [hr] at e
      have : b = lo := (List.cons.inj e).1.symm
      exact absurd hA (hn lo (by rw [this]; exact List.mem_cons_self))
    | nil =>
      rw [hr] at e
      have : a = lo := (List.cons.inj e).1.symm
      subst this
      generalize (forIn (List.range' a (hi + 1 - a)) (#[], a) (occBody (txt l) (txt [c]) hi 1)).run.fst = z at *
      cases z with
      | mk zl =>
        cases zl with
        | nil => simp at h0
        | cons x r => simp at h0; subst h0; exact ⟨r, rfl⟩
theorem occ_out {l : List Nat} {c lo hi : Nat} (hhi : hi ≤ l.length) (hlo : hi ≤ lo) : occurrences (txt l) (txt [c]) lo hi 1 = [] := by
  rw [occ_eq]
  rcases occ_first (txt l) (txt [c]) hi 1 (Nat.le_refl _) (List.range' lo (hi + 1 - lo)) lo (fun i h => (List.mem_range'_1.mp h).1) with ⟨h, _⟩ | ⟨pre, a, post, e, _, ha, _⟩
  · rw [h]
  · have h1 := ((at_iff hhi).mp ha).1
    have h2 : a ∈ List.range' lo (hi + 1 - lo) := by rw [e]; simp
    have h3 := (List.mem_range'_1.mp h2).1
    lia
section
variable {prog : Program} {w : World} {A : Around} {E : Value → Shared → Prop} {s : Shared} {l : List Nat} {c : Nat} {t u v v' : Tok} {Q : Value → Shared → Prop}
theorem gives_find4 (x y : Str) (i j : Int) (t u v v' : Tok) : Gives (Builtin.«str.find» ⟨[.str x t, .str y u, .int i v, .int j v'], []⟩) (.int (match occurrences x y (fromIndex x.length i) (min (fromIndex x.length j) x.length) 1 with | k :: _ => (k : Int) | [] => -1)) := by
  show Gives (match occurrences x y (fromIndex x.length i) (min (fromIndex x.length j) x.length) 1 with | k :: _ => retInt k | [] => (do rule "str.find.not-found"; retInt (-1))) _
  cases occurrences x y (fromIndex x.length i) (min (fromIndex x.length j) x.length) 1 with
  | nil => exact .rule (.of_eq rfl)
  | cons k _ => exact .of_eq rfl
theorem from_nat {l : List Nat} {i : Int} {k : Nat} (h : i = (k : Int)) : fromIndex (txt l).length i = k := by
  subst h; unfold fromIndex; rw [if_neg (Int.not_lt.mpr (Int.natCast_nonneg k))]; first | rfl | lia
/-- a sign is found where the search begins -/
theorem find_hit {i j : Int} {k n : Nat} (hi : i = (k : Int)) (hj : j = (n : Int)) (hn : n ≤ l.length) (hk : k + 1 ≤ n) (hc : l[k]? = some c) (h : ∀ tk t, Q (.int (k : Int) t) { s with toks := tk }) :
    wpAny (model prog w) A (call (.builtin "str.find") [.str (txt l) t, .str (txt [c]) u, .int i v, .int j v']) Q E s := by
  refine call_gives PySem.F.slot_str_find (typeIs_str _ _ _) PySem.F.entry_str_find (PySem.F.args_str_find_4 _ _ _ _) (gives_find4 (txt l) (txt [c]) i j t u v v') ?_
  rw [from_nat hi, from_nat hj, txt_length, Nat.min_eq_left hn]
  obtain ⟨r, e⟩ := occ_at hn hk hc
  rw [e]
  exact h _ _
theorem find_out {i j : Int} {k n : Nat} (hi : i = (k : Int)) (hj : j = (n : Int)) (hn : n ≤ l.length) (hk : n ≤ k) (h : ∀ tk t, Q (.int (-1) t) { s with toks := tk }) :
    wpAny (model prog w) A (call (.builtin "str.find") [.str (txt l) t, .str (txt [c]) u, .int i v, .int j v']) Q E s := by
  refine call_gives PySem.F.slot_str_find (typeIs_str _ _ _) PySem.F.entry_str_find (PySem.F.args_str_find_4 _ _ _ _) (gives_find4 (txt l) (txt [c]) i j t u v v') ?_
  rw [from_nat hi, from_nat hj, txt_length, Nat.min_eq_left hn, occ_out hn hk]
  exact h _ _
/-- a text without the sign stays -/
theorem replace_no {z : Str} (hc : c ∉ l) (h : Q (.str (txt l) t) s) :
    wpAny (model prog w) A (call (.builtin "str.replace") [.str (txt l) t, .str (txt [c]) u, .str z v]) Q E s := by
  refine call_gives PySem.F.slot_str_replace (typeIs_str _ _ _) PySem.F.entry_str_replace (PySem.F.args_str_replace_3 _ _ _) (m := .val (.str (txt l) t)) ?_ h
  show Gives (if ((occurrences (txt l) (txt [c]) 0 (txt l).length ((txt l).length + 1)).isEmpty || ((txt [c]).length == 0 && z.length == 0)) = true then (do rule "str.replace.nothing"; ret (.str (txt l) t)) else _) _
  rw [txt_length, occ_empty (by lia) hc]
  exact .rule (.of_eq rfl)
theorem notin_has {y : Str} (hy : y = txt [c]) (hc : c ∈ l) (h : Q (.bool false) s) : wpAny (model prog w) A (compareOp .NotIn (.str y u) (.str (txt l) t)) Q E s := by
  subst hy
  refine PyProof.Rows.notIn_str ?_
  have := found_one (txt l) c
  rw [txt_cps] at this
  have e : (⟨#[c]⟩ : Str) = txt [c] := rfl
  rw [e] at this
  rw [this, decide_eq_true hc]
  exact h
theorem item_sZ {value slice : PySem.Expr} {z : Int} {y : Nat} (hx : l[z.toNat]? = some y) (hz : 0 ≤ z) (hl : l.length ≤ 1000) (h : ∀ tk t', Q (.str (txt [y]) t') { s with toks := tk })
    (hs : subscripted slice false (.str (txt l) t) (.int z u) = operate [.str (txt l) t, .int z u] (getItem (.str (txt l) t) (.int z u)) := by with_unfolding_all rfl)
    (ht : ∀ r, letTemporaryGo value (.str (txt l) t) r = pure () := by intro _; with_unfolding_all rfl) :
    wpAny (model prog w) A (subscriptTail value slice (.str (txt l) t) (.int z u)) Q E s := by
  have hlt : z.toNat < l.length := (List.getElem?_eq_some_iff.mp hx).1
  refine KXi.item (n := l.length) txt_length (by lia) (by lia) (by lia) (fun _ => ?_) hs ht
  have e : Txt.item (txt l) z = txt [y] := by
    have := item_txt (l := l) (k := z.toNat) (x := y) (r := l.drop (z.toNat + 1)) (by rw [List.drop_eq_getElem_cons hlt]; congr 1; exact (List.getElem?_eq_some_iff.mp hx).2)
    rw [Int.toNat_of_nonneg hz] at this; exact this
  rw [e]
  exact h _ _
theorem item_sN {value slice : PySem.Expr} {y : Nat} {r : List Nat} (hx : l = r ++ [y]) (hl : l.length ≤ 1000) (h : ∀ tk t', Q (.str (txt [y]) t') { s with toks := tk })
    (hs : subscripted slice false (.str (txt l) t) (.int (-1) u) = operate [.str (txt l) t, .int (-1) u] (getItem (.str (txt l) t) (.int (-1) u)) := by with_unfolding_all rfl)
    (ht : ∀ r, letTemporaryGo value (.str (txt l) t) r = pure () := by intro _; with_unfolding_all rfl) :
    wpAny (model prog w) A (subscriptTail value slice (.str (txt l) t) (.int (-1) u)) Q E s := by
  have hlen : l.length = r.length + 1 := by rw [hx]; simp
  refine KXi.item (n := l.length) txt_length (by lia) (by lia) (by lia) (fun _ => ?_) hs ht
  have e : Txt.item (txt l) (-1) = txt [y] := by
    unfold Txt.item Txt.charAt
    have e : seqIndex? (-1) (txt l).length = some r.length := by
      unfold seqIndex?
      rw [txt_length, hlen]
      simp
      lia
    rw [e, hx]
    simp [txt]
  rw [e]
  exact h _ _
variable {h₀ : Heap} {L : Addr} {m : Str → Option Value} {news : List (Addr × Obj)}
theorem slice_ss {value slice : PySem.Expr} {i j : Int} {ui uj : Tok} {l' : List Nat} (F : Fr h₀ L s.heap m) (N : News h₀ L s.heap news) (hsl : Txt.slice (txt l) (some i) (some j) = txt l') (hl : l.length ≤ 1000) (h : ∀ h' t' k, Fr h₀ L h' m → News h₀ L h' news → Q (.str (txt l') t') { s with heap := h', toks := k })
    (hs : subscripted slice false (.str (txt l) t) (.ref s.heap.objs.size) = operate [.ref s.heap.objs.size, .str (txt l) t] (getItem (.str (txt l) t) (.ref s.heap.objs.size)) := by with_unfolding_all rfl)
    (ht : ∀ r, letTemporaryGo value (.str (txt l) t) r = pure () := by intro _; with_unfolding_all rfl) :
    wpAny (model prog w) A (subscriptTail value slice (.str (txt l) t) (.ref s.heap.objs.size)) Q E { s with heap := s.heap.push { cls := .type "slice", data := .fields #[.int i ui, .int j uj, .none] } } :=
  slice_strN_ss F N (fun h' t' k a b => by rw [hsl]; exact h h' t' k a b) hs ht (by rw [txt_length]; exact Nat.le_trans hl (by decide))
theorem slice_sn {value slice : PySem.Expr} {i : Int} {ui : Tok} {l' : List Nat} (F : Fr h₀ L s.heap m) (N : News h₀ L s.heap news) (hsl : Txt.slice (txt l) (some i) none = txt l') (hl : l.length ≤ 1000) (h : ∀ h' t' k, Fr h₀ L h' m → News h₀ L h' news → Q (.str (txt l') t') { s with heap := h', toks := k })
    (hs : subscripted slice false (.str (txt l) t) (.ref s.heap.objs.size) = operate [.ref s.heap.objs.size, .str (txt l) t] (getItem (.str (txt l) t) (.ref s.heap.objs.size)) := by with_unfolding_all rfl)
    (ht : ∀ r, letTemporaryGo value (.str (txt l) t) r = pure () := by intro _; with_unfolding_all rfl) :
    wpAny (model prog w) A (subscriptTail value slice (.str (txt l) t) (.ref s.heap.objs.size)) Q E { s with heap := s.heap.push { cls := .type "slice", data := .fields #[.int i ui, .none, .none] } } :=
  slice_strN_sn F N (fun h' t' k a b => by rw [hsl]; exact h h' t' k a b) hs ht (by rw [txt_length]; exact Nat.le_trans hl (by decide))
end
end Mine
end
section
open PySem PySem.W PyProof.Rows PySem.Calls
set_option Elab.async false
set_option maxRecDepth 100000
set_option maxHeartbeats 4000000
namespace Mine
theorem s42 : Str.ofString "*" = txt [42] := by decide
theorem s63 : Str.ofString "?" = txt [63] := by decide
theorem s33 : Str.ofString "!" = txt [33] := by decide
theorem eq_sign {c : Nat} {s : Str} (hs : s = txt [c]) : (txt [c] == s) = true := by rw [hs, txt_beq, decide_eq_true_eq]
theorem ne_sign {x c : Nat} {s : Str} (hs : s = txt [c]) (h : x ≠ c) : (txt [x] == s) = false := by
  rw [hs, txt_beq, decide_eq_false_iff_not]; intro e; exact h (List.cons.inj e).1
theorem safe_sv {size c : Nat} (h : size = 32 ∨ size = 128) : Safe (sv size (c % size)) := by
  rcases h with rfl | rfl
  · exact .inl (Nat.mod_lt _ (by decide))
  · exact .inr ⟨Nat.le_add_left _ _, Nat.add_lt_add_right (Nat.mod_lt c (by decide : 128 > 0)) 128⟩
theorem safe_out {x n : Nat} (h : Safe x) (h1 : 32 ≤ n) (h2 : n < 128) : x ≠ n := by
  rintro rfl
  rcases h with h | h
  · exact Nat.not_lt.mpr h1 h
  · exact Nat.not_le.mpr h2 h.1
theorem safe_ne {x : Nat} (h : Safe x) : x ≠ 42 ∧ x ≠ 63 ∧ x ≠ 91 ∧ x ≠ 33 ∧ x ≠ 93 ∧ x ≠ 45 ∧ x ≠ 94 ∧ x ≠ 92 ∧ x ≠ 38 ∧ x ≠ 124 ∧ x ≠ 126 ∧ x < 256 :=
  have o (n : Nat) (h1 : 32 ≤ n) (h2 : n < 128) : x ≠ n := safe_out h h1 h2
  ⟨o _ (by decide) (by decide), o _ (by decide) (by decide), o _ (by decide) (by decide), o _ (by decide) (by decide), o _ (by decide) (by decide), o _ (by decide) (by decide), o _ (by decide) (by decide), o _ (by decide) (by decide), o _ (by decide) (by decide), o _ (by decide) (by decide), o _ (by decide) (by decide),
    h.elim (fun h => Nat.lt_trans h (by decide)) fun h => h.2⟩
theorem at_drop {l : List Nat} {i x : Nat} {r : List Nat} (h : l.drop i = x :: r) : l[i]? = some x ∧ i < l.length ∧ l.drop (i + 1) = r := by
  have hi : i < l.length := Nat.lt_of_not_le fun z => by rw [List.drop_of_length_le z] at h; cases h
  refine ⟨?_, hi, by rw [← List.drop_drop, h]; rfl⟩
  have : (l.drop i)[0]? = some x := by rw [h]; rfl
  rw [List.getElem?_drop] at this; simpa using this
/-- the text that the translation gives for a piece -/
def pcText (size : Nat) : It → List Nat
  | .star => []
  | .any => [46]
  | .sign c => esc (sv size (c % size))
  | .br neg a b c => 91 :: ((if neg then [94] else []) ++ [sv size (min (a % size) (b % size)), 45, sv size (max (a % size) (b % size)), sv size (c % size), 93])
def partOf (size : Nat) : It → Option (List Nat)
  | .star => none
  | it => some (pcText size it)
def compStep (acc : List It) (it : It) : List It := match it, acc.getLast? with | .star, some .star => acc | it, _ => acc ++ [it]
theorem comp_snoc (its : List It) (it : It) : comp (its ++ [it]) = compStep (comp its) it := by
  unfold comp; rw [List.foldl_append]; rfl
theorem compStep_star {acc : List It} (h : acc.getLast? = some .star) : compStep acc .star = acc := by unfold compStep; rw [h]
theorem compStep_or (acc : List It) (it : It) : compStep acc it = acc ∨ compStep acc it = acc ++ [it] := by
  cases it with
  | star =>
    cases h : acc.getLast? with
    | none => right; unfold compStep; rw [h]
    | some x => cases x <;> first | (left; unfold compStep; rw [h]; done) | (right; unfold compStep; rw [h])
  | _ => exact .inr rfl
theorem compStep_other {acc : List It} {it : It} (h : it ≠ .star ∨ acc.getLast? ≠ some .star) : compStep acc it = acc ++ [it] := by
  cases it with
  | star =>
    have h := h.resolve_left fun z => z rfl
    unfold compStep
    cases e : acc.getLast? with
    | none => rfl
    | some x => cases x <;> first | exact absurd e h | rfl
  | _ => rfl
theorem part_star {star : Addr} {v : Value} {size : Nat} {it : It} (h : PartR star v (partOf size it)) : (it = .star ∧ v = .ref star) ∨ (it ≠ .star ∧ ∃ x t, v = .str x t) := by
  cases it with
  | star => exact .inl ⟨rfl, h⟩
  | any => obtain ⟨t, e⟩ := h; exact .inr ⟨nofun, _, t, e⟩
  | sign c => obtain ⟨t, e⟩ := h; exact .inr ⟨nofun, _, t, e⟩
  | br neg a b c => obtain ⟨t, e⟩ := h; exact .inr ⟨nofun, _, t, e⟩
theorem S_escapeT (w : World) (h : Heap) (c : Nat) (t : Tok) (hS : St w h) (hc : Safe c) : Spec w 55 [.str (txt [c]) t] 6 600 h (fun tl v => tl = [] ∧ ∃ t, v = .str (txt (esc c)) t) := S_escape w h c t hS hc
theorem pat_cons {size : Nat} {it : It} {r : List It} : patText size (it :: r) = itText size it ++ patText size r := rfl
/-- the lambda's place in the code table of _translate -/
abbrev lp : Pos := ⟨63, 39, 63, 76⟩
abbrev lq : Str := Str.ofString "_translate.<locals>.<lambda>"
inductive JT (g : Heap) (L star b R : Addr) (pat : List Nat) (size : Nat) (its : List It) (k : Nat) (m : Str → Option Value) (news : List (Addr × Obj)) : Prop
  | mk (i : _) (done : _) (rest : _) (rv : _) (nr : _) (ps : _) (extra : _) (tp : _) (tq : _) (tn : _) (ti : _) (h1 : (m (Str.ofString "pat") = some (.str (txt pat) tp) ∧ m (Str.ofString "STAR") = some (.ref star) ∧ m (Str.ofString "QUESTION_MARK") = some (.str (txt [46]) tq) ∧ m (Str.ofString "add") = some (.ref b) ∧ m (Str.ofString "res") = some (.ref R) ∧
      m (Str.ofString "n") = some (.int (pat.length : Nat) tn) ∧ m (Str.ofString "i") = some (.int (i : Nat) ti))) (h2 : news = (57, tabObj ps) :: (b, bnd R) :: (R, W.listOf (List.toArray rv) nr) :: extra) (h3 : TabL g L extra lp lq ps) (h4 : (∀ p ∈ extra, p.1 ≠ 57)) (h5 : (∀ p ∈ extra, p.1 ≠ R)) (h6 : its = done ++ rest) (h7 : pat.drop i = patText size rest) (h8 : All2 (PartR star) rv ((comp done).map (partOf size))) (h9 : k = pat.length - i) (h10 : i ≤ pat.length) (h11 : rv.length ≤ i) : JT g L star b R pat size its k m news
theorem All2.last' {α β : Type} {R : α → β → Prop} {xs : List α} {x : α} {ys : List β} (h : All2 R (xs ++ [x]) ys) : ∃ zs y, ys = zs ++ [y] ∧ R x y := by
  obtain ⟨y, hy, r⟩ := h.last (x := x) List.getLast?_concat
  have hne : ys ≠ [] := by rintro rfl; simp at hy
  refine ⟨ys.dropLast, y, ?_, r⟩
  rw [List.getLast?_eq_some_getLast hne] at hy
  rw [← Option.some.inj hy, List.dropLast_concat_getLast]
end Mine
end
section
open PySem PySem.W PyProof.Rows PySem.Calls
open PyProof.Rows.LCg (NsObj ns_obj lst lst_snoc SrcAt)
set_option Elab.async false
set_option maxRecDepth 100000
set_option maxHeartbeats 4000000
namespace Mine
section
variable {prog : Program} {w : World} {A : Around} {s : Shared} {env : Env} {h₀ : Heap} {L : Addr} {m : Str → Option Value}
def OPost (h₀ : Heap) (L I : Addr) (s₁ : Shared) (P : (Str → Option Value) → List (Addr × Obj) → Prop) (f : Flow) (s' : Shared) : Prop :=
  f = .next ∧ ∃ h' tk' m' news' oI, s' = { s₁ with heap := h', toks := tk' } ∧ Fr h₀ L h' m' ∧ News h₀ L h' ((I, oI) :: news') ∧ (∀ p ∈ news', p.1 ≠ I) ∧ IsRangeIter h' I 0 0 (-1) ∧ P m' news'
theorem OPost.mk {I : Addr} {s₁ : Shared} {P : (Str → Option Value) → List (Addr × Obj) → Prop} {h' : Heap} {tk' : Nat} {m' : Str → Option Value} {all news' : List (Addr × Obj)}
    (F : Fr h₀ L h' m') (N : News h₀ L h' all) (hI : (I, ({ cls := .type "range_iterator", data := .fields #[rawInt 0, rawInt 0, rawInt (-1)] } : Obj)) ∈ all) (sub : ∀ p ∈ news', p ∈ all) (off : ∀ p ∈ news', p.1 ≠ I) (hP : P m' news') : OPost h₀ L I s₁ P .next { s₁ with heap := h', toks := tk' } :=
  ⟨rfl, h', tk', m', news', _, rfl, F, fun p hp => N p (by
    rcases List.mem_cons.mp hp with rfl | hp
    · exact hI
    · exact sub p hp), off, (N _ hI).1, hP⟩
/-- hides a goal from the walk -/
def Hold (P : Prop) : Prop := P
/-- a range of one turn, downwards -/
def K_for_one.Pκ (x : Str) (px : Pos) (pos : Pos) (iter : Expr) (body : List Stmt) (Q : Flow → Shared → Prop) (P : (Str → Option Value) → List (Addr × Obj) → Prop) : Prop :=
  ∀ (L : Addr) (hh : A.handled = none) (hs : ∀ z, foldedSetIterable iter env z = pure z) (hLe : env.locals = L) (hy : env.kindOf x = some .local) (hp : (env.scope.kind == .class || (env.scope.kind == .module && env.locals != env.globals)) = false) (h : wpAny (model prog w) A (eval iter env) (fun xv s₁ => Hold (∃ (r : Addr) (a b c : Int) (t u v : Tok) (news : List (Addr × Obj)) (m : Str → Option Value), xv = .ref r ∧ IsRange s₁.heap r a b c t u v ∧ a = 1 ∧ b = 0 ∧ c = -1 ∧ Fr h₀ L s₁.heap m ∧ News h₀ L s₁.heap news ∧
      (∀ h tk tv I, Fr h₀ L h (fun y => if y = x then some (.int 1 tv) else m y) → News h₀ L h ((I, { cls := .type "range_iterator", data := .fields #[rawInt 0, rawInt 0, rawInt (-1)] }) :: news) → (∀ p ∈ news, p.1 ≠ I) →
        wpAny (model prog w) A (execs body env) (fun f s' => Hold (OPost h₀ L I s₁ P f s')) FF { s₁ with heap := h, toks := tk }) ∧
      (∀ m₁ news₁ h tk, P m₁ news₁ → Fr h₀ L h m₁ → News h₀ L h news₁ → Q .next { s₁ with heap := h, toks := tk }))) FF s), wpAny (model prog w) A (exec (.For (.Name x px) iter body [] pos) env) Q FF s
end
namespace K_for_one
theorem ne : Nonempty ((Program) × (World) × (Around) × (Shared) × (Env) × (Heap) × (Str) × (Pos) × (Pos) × (Expr) × (List Stmt) × (Flow → Shared → Prop) × ((Str → Option Value) → List (Addr × Obj) → Prop)) := ⟨(Classical.ofNonempty, w0, ⟨none, 0, none, none, 0⟩, {}, Classical.ofNonempty, Classical.ofNonempty, Classical.ofNonempty, Classical.ofNonempty, Classical.ofNonempty, Classical.ofNonempty, Classical.ofNonempty, Classical.ofNonempty, Classical.ofNonempty)⟩
noncomputable def κ : (Program) × (World) × (Around) × (Shared) × (Env) × (Heap) × (Str) × (Pos) × (Pos) × (Expr) × (List Stmt) × (Flow → Shared → Prop) × ((Str → Option Value) → List (Addr × Obj) → Prop) := pick ne fun c => ¬ @Pκ (c.1) (c.2.1) (c.2.2.1) (c.2.2.2.1) (c.2.2.2.2.1) (c.2.2.2.2.2.1) (c.2.2.2.2.2.2.1) (c.2.2.2.2.2.2.2.1) (c.2.2.2.2.2.2.2.2.1) (c.2.2.2.2.2.2.2.2.2.1) (c.2.2.2.2.2.2.2.2.2.2.1) (c.2.2.2.2.2.2.2.2.2.2.2.1) (c.2.2.2.2.2.2.2.2.2.2.2.2)
noncomputable def prog : Program := κ.1
noncomputable def w : World := κ.2.1
noncomputable def A : Around := κ.2.2.1
noncomputable def s : Shared := κ.2.2.2.1
noncomputable def env : Env := κ.2.2.2.2.1
noncomputable def h₀ : Heap := κ.2.2.2.2.2.1
noncomputable def x : Str := κ.2.2.2.2.2.2.1
noncomputable def px : Pos := κ.2.2.2.2.2.2.2.1
noncomputable def pos : Pos := κ.2.2.2.2.2.2.2.2.1
noncomputable def iter : Expr := κ.2.2.2.2.2.2.2.2.2.1
noncomputable def body : List Stmt := κ.2.2.2.2.2.2.2.2.2.2.1
noncomputable def Q : Flow → Shared → Prop := κ.2.2.2.2.2.2.2.2.2.2.2.1
noncomputable def P : (Str → Option Value) → List (Addr × Obj) → Prop := κ.2.2.2.2.2.2.2.2.2.2.2.2
theorem core : @Pκ prog w A s env h₀ x px pos iter body Q P := by
  intro L hh hs hLe hy hp h
  subst hLe
  refine wpAny_For (wpAny_mono h (fun xv s₁ h₁ => ?_) fun _ _ e => e) hs
  obtain ⟨r, a, b, c, t, u, v, news, m, rfl, hr, rfl, rfl, rfl, F, N, turn, fin⟩ := h₁
  refine wpAny_pyIter_range hr (by decide +kernel) ?_
  have up : Kp s₁.heap (s₁.heap.push { cls := .type "range_iterator", data := .fields #[rawInt 1, rawInt (Builtin.Range.rangeSize 1 0 (-1)), rawInt (-1)] }) := fun b o e => Heap.get?_push_of_some _ e
  have nI : News h₀ env.locals (s₁.heap.push { cls := .type "range_iterator", data := .fields #[rawInt 1, rawInt (Builtin.Range.rangeSize 1 0 (-1)), rawInt (-1)] }) ((s₁.heap.objs.size, { cls := .type "range_iterator", data := .fields #[rawInt 1, rawInt 1, rawInt (-1)] }) :: news) := fun p hp => by
    rcases List.mem_cons.mp hp with rfl | hp
    · exact ⟨Heap.get?_push_size _ rfl, Nat.ne_of_gt F.ns.lt, next_is_new F⟩
    · exact ⟨up _ _ (N p hp).1, (N p hp).2⟩
  have offI : ∀ p ∈ news, p.1 ≠ s₁.heap.objs.size := fun p hp => Nat.ne_of_lt (Heap.lt_size (N p hp).1)
  refine codeAny_forLoop_any (fun k s' => (k = 1 ∧ ∃ tk, s' = { s₁ with heap := s₁.heap.push { cls := .type "range_iterator", data := .fields #[rawInt 1, rawInt (Builtin.Range.rangeSize 1 0 (-1)), rawInt (-1)] }, toks := tk }) ∨ (k = 0 ∧ ∃ h' tk' m' news' oI, s' = { s₁ with heap := h', toks := tk' } ∧ Fr h₀ env.locals h' m' ∧ News h₀ env.locals h' ((s₁.heap.objs.size, oI) :: news') ∧ (∀ p ∈ news', p.1 ≠ s₁.heap.objs.size) ∧ IsRangeIter h' s₁.heap.objs.size 0 0 (-1) ∧ P m' news')) ?_ 1 (.inl ⟨rfl, s₁.toks, rfl⟩)
  rintro k s' (⟨rfl, tk, rfl⟩ | ⟨rfl, h', tk', m', news', oI, rfl, F', N', off', hit', hP⟩)
  · refine wpAny_pyNext_range_item (x := 1) (left := 1) (step := -1) (nI _ List.mem_cons_self).1 (by decide) fun h2 hit2 hs2 => ?_
    refine wpAny_pure ?_
    have zI := nI _ List.mem_cons_self
    have F2 : Fr h₀ env.locals h2 m := (fr_after F up).change hs2 zI.2.1 zI.2.2
    have N2 : News h₀ env.locals h2 ((s₁.heap.objs.size, { cls := .type "range_iterator", data := .fields #[rawInt 0, rawInt 0, rawInt (-1)] }) :: news) := fun p hp => by
      rcases List.mem_cons.mp hp with rfl | hp
      · exact ⟨hit2, zI.2⟩
      · have z := nI p (List.mem_cons_of_mem _ hp)
        exact ⟨(hs2.2 _ (offI p hp)).trans z.1, z.2⟩
    refine wpAny_assign_Name (wpAny_storeName_local hy F2.ns (fun h3 hn3 hs3 => ?_) hp)
    refine wpAny_noRaise (wpAny_mono (turn h3 _ _ s₁.heap.objs.size (F2.set hn3 hs3) (N2.set hs3) offI) (fun f s4 h4 => ?_) fun _ _ e => e)
    obtain ⟨rfl, h5, tk5, m5, news5, oI5, rfl, F5, N5, off5, hit5, hP5⟩ := h4
    exact ⟨0, by lia, .inr ⟨rfl, h5, tk5, m5, news5, oI5, rfl, F5, N5, off5, hit5, hP5⟩⟩
  · refine wpAny_pyNext_range_end hh hit' (by decide) fun h2 he2 => ?_
    have zI := N' _ List.mem_cons_self
    have z : ∀ b o, b ≠ s₁.heap.objs.size → h'.get? b = some o → h2.get? b = some o := fun b o hb e => he2 b o hb e
    refine wpAny_execs_nil (fin m' news' h2 tk' hP ⟨F'.ns.at' fun o e => z _ o (Ne.symm zI.2.1) e, fun b o e => z b o (fun q => by rw [q, zI.2.2] at e; cases e) (F'.keep b o e), F'.above⟩ fun p hp => ⟨z _ _ (off' p hp) (N' p (List.mem_cons_of_mem _ hp)).1, (N' p (List.mem_cons_of_mem _ hp)).2⟩)
end K_for_one
section
variable {prog : Program} {w : World} {A : Around} {s : Shared} {env : Env} {h₀ : Heap} {L : Addr} {m : Str → Option Value}
theorem for_one {x : Str} {px pos : Pos} {iter : Expr} {body : List Stmt} {Q : Flow → Shared → Prop} (P : (Str → Option Value) → List (Addr × Obj) → Prop) (hh : A.handled = none)
    (hs : ∀ z, foldedSetIterable iter env z = pure z) (hLe : env.locals = L) (hy : env.kindOf x = some .local) (hp : (env.scope.kind == .class || (env.scope.kind == .module && env.locals != env.globals)) = false)
    (h : wpAny (model prog w) A (eval iter env) (fun xv s₁ => Hold (∃ (r : Addr) (a b c : Int) (t u v : Tok) (news : List (Addr × Obj)) (m : Str → Option Value), xv = .ref r ∧ IsRange s₁.heap r a b c t u v ∧ a = 1 ∧ b = 0 ∧ c = -1 ∧ Fr h₀ L s₁.heap m ∧ News h₀ L s₁.heap news ∧
      (∀ h tk tv I, Fr h₀ L h (fun y => if y = x then some (.int 1 tv) else m y) → News h₀ L h ((I, { cls := .type "range_iterator", data := .fields #[rawInt 0, rawInt 0, rawInt (-1)] }) :: news) → (∀ p ∈ news, p.1 ≠ I) →
        wpAny (model prog w) A (execs body env) (fun f s' => Hold (OPost h₀ L I s₁ P f s')) FF { s₁ with heap := h, toks := tk }) ∧
      (∀ m₁ news₁ h tk, P m₁ news₁ → Fr h₀ L h m₁ → News h₀ L h news₁ → Q .next { s₁ with heap := h, toks := tk }))) FF s) :
    wpAny (model prog w) A (exec (.For (.Name x px) iter body [] pos) env) Q FF s :=
  pickAll K_for_one.ne (P := fun c => @K_for_one.Pκ (c.1) (c.2.1) (c.2.2.1) (c.2.2.2.1) (c.2.2.2.2.1) (c.2.2.2.2.2.1) (c.2.2.2.2.2.2.1) (c.2.2.2.2.2.2.2.1) (c.2.2.2.2.2.2.2.2.1) (c.2.2.2.2.2.2.2.2.2.1) (c.2.2.2.2.2.2.2.2.2.2.1) (c.2.2.2.2.2.2.2.2.2.2.2.1) (c.2.2.2.2.2.2.2.2.2.2.2.2)) K_for_one.core (prog, w, A, s, env, h₀, x, px, pos, iter, body, Q, P) L hh hs hLe hy hp h
end
end Mine
end
section
open PySem PySem.W PyProof.Rows PySem.Calls
set_option Elab.async false
set_option maxRecDepth 100000
set_option maxHeartbeats 4000000
namespace Mine
theorem re_plain : PlainAttrs "re.Pattern" :=
  ⟨⟨"object.__getattribute__", by rw [typeLookup_type, builtinLookup_eq_fast]; kernel_rfl, by decide +kernel⟩, by rw [typeLookup_type, builtinLookup_eq_fast]; kernel_rfl⟩
theorem re_slot : Slot "re.Pattern" "sub" "re.Pattern.sub" :=
  .of (owner := "re.Pattern") (n := "sub") (by rw [typeLookup_type, builtinLookup_eq_fast]; kernel_rfl) (by decide +kernel) (by decide +kernel) (by decide +kernel)
    (by first | exact .inl (by decide +kernel) | exact .inr (by decide +kernel)) (by rw [isSubtype_type]; kernel_rfl)
theorem re_type : typeOf (.builtin "re.Pattern.sub") = pure (.type "method_descriptor") := by show builtinType _ = _; rw [builtinType_eq_fast]; kernel_rfl
theorem re_entry : entryFor table "re.Pattern.sub" = some Builtin.«re.Pattern.sub» := entryFor_of_tree (by kernel_rfl)
theorem re_entry_loop : entryFor table "re.Pattern.sub.loop" = some Builtin.«re.Pattern.sub.loop» := entryFor_of_tree (by kernel_rfl)
theorem re_plain_loop : plainId "re.Pattern.sub.loop" = true := by decide +kernel
theorem re_args (a b c : Value) : argsOk "re.Pattern.sub" ⟨[a, b, c], []⟩ := by
  unfold argsOk; kernel_rfl
end Mine
end
section
open PySem PySem.W PyProof.Rows PySem.Calls PySem.Builtin.Re PySem.Builtin
set_option Elab.async false
set_option maxRecDepth 100000
set_option maxHeartbeats 4000000
namespace Mine
def rcode : Array Nat := #[14, 14, 4, 1, 1, 9, 0, 64, 0, 1342177280, 0, 0, 0, 0, 0, 17, 0, 13, 11, 9, 0, 64, 0, 1342177280, 0, 0, 0, 0, 0, 17, 1, 1]
def rbad (c : Nat) : Bool := decide (c < 256) && (rcode.getD (5 + (1 + c / 32)) 0).testBit (c % 32)
theorem rbad_no : ∀ c : Nat, c < 256 → c ≠ 38 → c ≠ 124 → c ≠ 126 → rbad c = false := by decide +kernel
theorem in_no {c : Nat} (hc : rbad c = false) (seen : Sre.Seen) : Sre.inSet rcode c rcode.size 5 true seen = .ok (false, (seen.add 9).add 0) := by
  show (if rbad c = true then _ else _) = _
  rw [hc]
  rfl
theorem adm_no {m : Sre.M} (hm : m.code = rcode) (ht : ∀ s, s < m.lim → rbad (m.text.getD s 0) = false) : ∀ fuel s seen, ∃ seen', Sre.M.admitted m fuel s seen = .ok (none, seen')
  | 0, s, seen => ⟨seen, rfl⟩
  | fuel + 1, s, seen => by
    show ∃ seen', (if s ≥ m.lim then _ else _) = _
    split
    · exact ⟨seen, rfl⟩
    · rename_i hs
      rw [hm, in_no (ht s (by lia))]
      exact adm_no hm ht fuel (s + 1) _
def rm0 (text : Array Nat) (n : Nat) : Sre.M := { code := rcode, text, lim := n, start := 0, pc := 15, pos := 0, handed := 0, marks := Array.replicate (2 * 1) none, mustAdvance := false, seen := ({} : Sre.Seen).add 14, lastStart := n }
theorem search_eq {text : Array Nat} {n : Nat} (hn : 1 ≤ n) : Sre.forSearch rcode text 1 0 n false = (rm0 text n).attemptFrom 0 true := by
  unfold Sre.forSearch
  rw [if_neg (by
    show ¬ ((decide (0 > n) || decide (n - 0 < 1)) = true)
    simp; lia)]
  rfl
theorem search_no {text : Array Nat} {n : Nat} (hn : 1 ≤ n) (ht : ∀ s, s < n → rbad (text.getD s 0) = false) : ∃ seen, Sre.forSearch rcode text 1 0 n false = ({ rm0 text n with seen := seen }).say false := by
  rw [search_eq hn]
  obtain ⟨seen, e⟩ := adm_no (m := rm0 text n) rfl ht ((rm0 text n).lim + 1 - 0) 0 (rm0 text n).seen
  refine ⟨seen, ?_⟩
  unfold Sre.M.attemptFrom
  rw [show (rm0 text n).hasFirstSet = true from rfl, if_neg (by decide), e]
section
variable {M : Model} {A : Around} {E : Value → Shared → Prop} {s : Shared}
theorem rules_none {p : Nat → Bool} {g : Nat → String} : ∀ (l : List Nat) {Q : PUnit → Shared → Prop}, Q PUnit.unit s → wpAny M A (forIn l PUnit.unit fun i _ => if p i = true then do rule (g i); pure (ForInStep.yield PUnit.unit) else pure (ForInStep.yield PUnit.unit)) Q E s
  | [], Q, h => by rw [List.forIn_nil]; exact wpAny_pure h
  | i :: l, Q, h => by
    rw [List.forIn_cons]
    refine wpAny_bind ?_
    split
    · exact wpAny_bind (wpAny_rule (wpAny_pure (rules_none l h)))
    · exact wpAny_pure (rules_none l h)
theorem drive_none {m : Sre.M} {n : Nat} (ha : m.answer = some false) (hf : m.frames = []) (ho : m.outcome = none) {Q : Sre.M → Shared → Prop} (h : Q { m with outcome := some .failed } s) : wpAny M A (reDrive (n + 1) m) Q E s := by
  have e : m.runFor reTurnSteps = { m with outcome := some .failed } := by
    have e1 : m.step = { m with outcome := some .failed } := by
      unfold Sre.M.step
      rw [ho, ha, hf]; rfl
    show Sre.M.runFor (3 + 1) m = _
    rw [Sre.M.runFor, ho, e1]
    rfl
  rw [reDrive]
  simp only [e]
  exact wpAny_pure h
theorem run_none {m : Sre.M} (ha : m.answer = some false) (hf : m.frames = []) (ho : m.outcome = none) {Q : Option Sre.M → Shared → Prop} (h : Q none s) : wpAny M A (reRunToEnd m) Q E s := by
  unfold reRunToEnd
  rw [show (2 : Nat) ^ 64 = 18446744073709551615 + 1 from rfl]
  refine wpAny_bind (drive_none ha hf ho ?_)
  refine wpAny_bind (rules_none _ ?_)
  exact wpAny_pure h
theorem reStr {x : Str} {t : Tok} {Q : Array Nat × Nat → Shared → Prop} (h : Q (x.cps, 0) s) : wpAny M A (reTextOf (.str x t)) Q E s := by
  unfold reTextOf
  wp_walk
  exact h
/-- the expression, as the program holds it -/
structure ReAt (h : Heap) (P : Addr) : Prop where
  ex : ∃ (C : Addr) (pt : Str) (t1 t2 t3 t4 : Tok) (co : Obj) (xs : Array Value) (n : Nat), h.get? P = some { cls := .type "re.Pattern", data := .fields #[.str pt t1, .int 32 t2, .int 1 t3, .none, .none, .ref C, .int 0 t4] } ∧ h.get? C = some co ∧ co.data = .seq xs n ∧ xs.map reRawOf = rcode.map (fun c : Nat => (c : Int))
theorem ReAt.keeps {h h' : Heap} {P : Addr} (x : ReAt h P) (k : ∀ b o, h.get? b = some o → h'.get? b = some o) : ReAt h' P := by
  obtain ⟨C, pt, t1, t2, t3, t4, co, xs, n, a, b, c, d⟩ := x.ex; exact ⟨C, pt, t1, t2, t3, t4, co, xs, n, k _ _ a, k _ _ b, c, d⟩
theorem whole_ok {P : Addr} {x : Str} {t : Tok} {Q : ReTarget → Shared → Prop} (hP : ReAt s.heap P) (h : Q { pattern := .ref P, string := .str x t, code := rcode, text := x.cps, kind := 0, groups := 1, pos := 0, lim := x.cps.size } s) : wpAny M A (reWholeTarget (.ref P) (.str x t)) Q E s := by
  obtain ⟨C, pt, t1, t2, t3, t4, co, xs, n, a, b, c, d⟩ := hP.ex
  unfold reWholeTarget
  refine wpAny_bind ?_
  unfold fieldsOf
  refine wpAny_bind (wpAny_load a (wpAny_pure ?_))
  refine wpAny_bind (reStr ?_)
  wp_walk
  rw [c]
  refine wpAny_pure (wpAny_pure (wpAny_pure ?_))
  have e : (Array.map reRawOf ((some xs).getD #[])).map (fun x => x.toNat) = rcode := by
    show (Array.map reRawOf xs).map _ = _
    rw [d]; decide +kernel
  rw [e]
  exact h
end
section
variable {prog : Program} {w : World} {A : Around} {E : Value → Shared → Prop} {s : Shared}
theorem next_none {M : Model} {A : Around} {P : Addr} {x : Str} {t : Tok} {Q : Option Sre.M → Shared → Prop} (hx : 1 ≤ x.cps.size) (hno : ∀ i, i < x.cps.size → rbad (x.cps.getD i 0) = false) (h : Q none s) :
    wpAny M A (reNextFound { pattern := .ref P, string := .str x t, code := rcode, text := x.cps, kind := 0, groups := 1, pos := 0, lim := x.cps.size } (Int.toNat 0) false) Q E s := by
  obtain ⟨seen, e⟩ := search_no hx hno
  unfold reNextFound
  show wpAny M A (reRunToEnd (Sre.forSearch rcode x.cps 1 0 x.cps.size false)) Q E s
  rw [e]
  exact run_none rfl rfl rfl h
def K_sub_loop.Pκ (P : Addr) (f : Addr) (D : Addr) (x : Str) (t : Tok) (n : Nat) (R : Result → Shared → Prop) : Prop :=
  ∀ (hP : ReAt s.heap P) (hx : 1 ≤ x.cps.size) (hz : x.cps.size ≤ 100000) (hno : ∀ i, i < x.cps.size → rbad (x.cps.getD i 0) = false) (hD : s.heap.get? D = some { cls := .type "list", data := .seq #[] n }) (h : ∀ h' tk' t', Heap.SameBut D s.heap h' → R (.ok (.ret (.str x t'))) { s with heap := h', toks := tk' }), codeAny (model prog w) A (.builtin "re.Pattern.sub.loop" ⟨[.ref P, .str x t, .ref f, rawInt 1, rawInt 0, rawInt 0, rawInt 0, rawInt 0, .bool false, .ref D, .bool false], []⟩) R s
end
namespace K_sub_loop
theorem ne : Nonempty ((Program) × (World) × (Around) × (Shared) × (Addr) × (Addr) × (Addr) × (Str) × (Tok) × (Nat) × (Result → Shared → Prop)) := ⟨(Classical.ofNonempty, w0, ⟨none, 0, none, none, 0⟩, {}, Classical.ofNonempty, Classical.ofNonempty, Classical.ofNonempty, Classical.ofNonempty, Classical.ofNonempty, Classical.ofNonempty, Classical.ofNonempty)⟩
noncomputable def κ : (Program) × (World) × (Around) × (Shared) × (Addr) × (Addr) × (Addr) × (Str) × (Tok) × (Nat) × (Result → Shared → Prop) := pick ne fun c => ¬ @Pκ (c.1) (c.2.1) (c.2.2.1) (c.2.2.2.1) (c.2.2.2.2.1) (c.2.2.2.2.2.1) (c.2.2.2.2.2.2.1) (c.2.2.2.2.2.2.2.1) (c.2.2.2.2.2.2.2.2.1) (c.2.2.2.2.2.2.2.2.2.1) (c.2.2.2.2.2.2.2.2.2.2)
noncomputable def prog : Program := κ.1
noncomputable def w : World := κ.2.1
noncomputable def A : Around := κ.2.2.1
noncomputable def s : Shared := κ.2.2.2.1
noncomputable def P : Addr := κ.2.2.2.2.1
noncomputable def f : Addr := κ.2.2.2.2.2.1
noncomputable def D : Addr := κ.2.2.2.2.2.2.1
noncomputable def x : Str := κ.2.2.2.2.2.2.2.1
noncomputable def t : Tok := κ.2.2.2.2.2.2.2.2.1
noncomputable def n : Nat := κ.2.2.2.2.2.2.2.2.2.1
noncomputable def R : Result → Shared → Prop := κ.2.2.2.2.2.2.2.2.2.2
theorem core : @Pκ prog w A s P f D x t n R := by
  intro hP hx hz hno hD h
  refine codeAny_builtin re_entry_loop ?_
  rw [Around.under_plainId re_plain_loop]
  unfold Builtin.«re.Pattern.sub.loop»
  refine wpAny_bind (whole_ok hP ?_)
  wp_walk using next_none hx hno
  rw [if_pos (show Int.toNat 0 < x.cps.size from hx)]
  have e0 : (⟨x.cps.extract (Int.toNat 0) x.cps.size⟩ : Str) = x := by
    show (⟨x.cps.extract 0 x.cps.size⟩ : Str) = x
    rw [Array.extract_size]
  refine wpAny_bind ?_
  show wpAny _ _ (mkStr ⟨x.cps.extract (Int.toNat 0) x.cps.size⟩) _ _ _
  rw [e0]
  refine wpAny_mkStr ?_ (Nat.le_trans hz (by decide))
  refine wpAny_bind (wpAny_updateSeq (s := { s with toks := s.toks + 1 }) hD rfl ?_ (by decide) (by show 1 ≤ _; decide))
  refine wpAny_bind ?_
  show wpAny _ _ (mkStr ⟨x.cps.extract 0 0⟩) _ _ _
  refine wpAny_mkStr ?_ (by simp [Str.length])
  have hD' : (s.heap.update D (Obj.mapSeq fun z => z.push (.str x s.toks))).get? D = some { cls := .type "list", data := .seq #[.str x s.toks] (n + 1) } := by
    rw [Heap.get?_update_self _ hD (by rw [mapSeq_push]; rfl), mapSeq_push]; rfl
  refine wpAny_bind (wpAny_seqItems hD' rfl ?_)
  rw [if_neg (by simp)]
  refine wpAny_bind ?_
  show wpAny _ _ (call (.builtin "str.join") _) _ _ _
  refine call_meets PySem.F.slot_str_join (typeIs_str _ _ _) PySem.F.entry_str_join (PySem.F.args_str_join_2 _ _) (meets_str_join_list _ _ D [(x, s.toks)] ?_) ⟨⟨_, hD', rfl, _, rfl⟩, ?_⟩
  · show Str.tooLong (0 + x.length + _) = false
    unfold Str.tooLong
    have hz' : 100000 ≤ sizeLine := by decide
    simp [Str.length]
    lia
  · show wpAny _ _ (ret _) _ _ _
    exact wpAny_pure (h _ _ _ (Heap.SameBut.update ..))
end K_sub_loop
section
variable {prog : Program} {w : World} {A : Around} {E : Value → Shared → Prop} {s : Shared}
theorem sub_loop {P f D : Addr} {x : Str} {t : Tok} {n : Nat} {R : Result → Shared → Prop} (hP : ReAt s.heap P) (hx : 1 ≤ x.cps.size) (hz : x.cps.size ≤ 100000) (hno : ∀ i, i < x.cps.size → rbad (x.cps.getD i 0) = false)
    (hD : s.heap.get? D = some { cls := .type "list", data := .seq #[] n })
    (h : ∀ h' tk' t', Heap.SameBut D s.heap h' → R (.ok (.ret (.str x t'))) { s with heap := h', toks := tk' }) :
    codeAny (model prog w) A (.builtin "re.Pattern.sub.loop" ⟨[.ref P, .str x t, .ref f, rawInt 1, rawInt 0, rawInt 0, rawInt 0, rawInt 0, .bool false, .ref D, .bool false], []⟩) R s :=
  pickAll K_sub_loop.ne (P := fun c => @K_sub_loop.Pκ (c.1) (c.2.1) (c.2.2.1) (c.2.2.2.1) (c.2.2.2.2.1) (c.2.2.2.2.2.1) (c.2.2.2.2.2.2.1) (c.2.2.2.2.2.2.2.1) (c.2.2.2.2.2.2.2.2.1) (c.2.2.2.2.2.2.2.2.2.1) (c.2.2.2.2.2.2.2.2.2.2)) K_sub_loop.core (prog, w, A, s, P, f, D, x, t, n, R) hP hx hz hno hD h
theorem fn_slot : typeLookup (.type "function") "__call__" = pure (some (.builtin "function.__call__")) := by rw [typeLookup_type, builtinLookup_eq_fast]; kernel_rfl
def K_re_sub.Pκ (P : Addr) (f : Addr) (x : Str) (t : Tok) (Q : Value → Shared → Prop) : Prop :=
  ∀ (hP : ReAt s.heap P) (hf : s.TypeIs (.ref f) "function") (hx : 1 ≤ x.cps.size) (hz : x.cps.size ≤ 100000) (hno : ∀ i, i < x.cps.size → rbad (x.cps.getD i 0) = false) (h : ∀ h' tk' t', (∀ b o, s.heap.get? b = some o → h'.get? b = some o) → Q (.str x t') { s with heap := h', toks := tk' }), wpAny (model prog w) A (call (.builtin "re.Pattern.sub") [.ref P, .ref f, .str x t]) Q E s
end
namespace K_re_sub
theorem ne : Nonempty ((Program) × (World) × (Around) × (Value → Shared → Prop) × (Shared) × (Addr) × (Addr) × (Str) × (Tok) × (Value → Shared → Prop)) := ⟨(Classical.ofNonempty, w0, ⟨none, 0, none, none, 0⟩, Classical.ofNonempty, {}, Classical.ofNonempty, Classical.ofNonempty, Classical.ofNonempty, Classical.ofNonempty, Classical.ofNonempty)⟩
noncomputable def κ : (Program) × (World) × (Around) × (Value → Shared → Prop) × (Shared) × (Addr) × (Addr) × (Str) × (Tok) × (Value → Shared → Prop) := pick ne fun c => ¬ @Pκ (c.1) (c.2.1) (c.2.2.1) (c.2.2.2.1) (c.2.2.2.2.1) (c.2.2.2.2.2.1) (c.2.2.2.2.2.2.1) (c.2.2.2.2.2.2.2.1) (c.2.2.2.2.2.2.2.2.1) (c.2.2.2.2.2.2.2.2.2)
noncomputable def prog : Program := κ.1
noncomputable def w : World := κ.2.1
noncomputable def A : Around := κ.2.2.1
noncomputable def E : Value → Shared → Prop := κ.2.2.2.1
noncomputable def s : Shared := κ.2.2.2.2.1
noncomputable def P : Addr := κ.2.2.2.2.2.1
noncomputable def f : Addr := κ.2.2.2.2.2.2.1
noncomputable def x : Str := κ.2.2.2.2.2.2.2.1
noncomputable def t : Tok := κ.2.2.2.2.2.2.2.2.1
noncomputable def Q : Value → Shared → Prop := κ.2.2.2.2.2.2.2.2.2
theorem core : @Pκ prog w A E s P f x t Q := by
  intro hP hf hx hz hno h
  have hT : s.TypeIs (.ref P) "re.Pattern" := by
    obtain ⟨C, pt, t1, t2, t3, t4, co, xs, n, a, b, c, d⟩ := hP.ex
    exact ⟨_, a, rfl⟩
  refine wpAny_call (codeAny_call_builtin re_slot.plain re_entry (re_slot.check _ _ _ _ _ _ _ _ hT (re_args _ _ _) ?_))
  unfold Builtin.«re.Pattern.sub» reSubstitute
  have fs := fn_slot
  have i1 : isSubtype (.type "str") (.type "bytearray") = pure false := by rw [isSubtype_type]; kernel_rfl
  have i2 : isSubtype (.type "str") (.type "str") = pure true := by rw [isSubtype_type]; kernel_rfl
  wp_walk using whole_ok hP
  have up : ∀ b o, s.heap.get? b = some o → (s.heap.push { cls := .type "list", data := .seq #[] }).get? b = some o := fun b o e => Heap.get?_push_of_some _ e
  refine ⟨plainId_quiet re_plain_loop _, sub_loop (s := { s with heap := s.heap.push { cls := .type "list", data := .seq #[] } }) (n := 0) (hP.keeps up) hx hz hno (Heap.get?_push_size _ rfl) fun h' tk' t' hs => ?_⟩
  exact h h' tk' t' fun b o e => (hs.2 b (Nat.ne_of_lt (Heap.lt_size e))).trans (up b o e)
end K_re_sub
section
variable {prog : Program} {w : World} {A : Around} {E : Value → Shared → Prop} {s : Shared}
theorem re_sub {P f : Addr} {x : Str} {t : Tok} {Q : Value → Shared → Prop} (hP : ReAt s.heap P) (hf : s.TypeIs (.ref f) "function") (hx : 1 ≤ x.cps.size) (hz : x.cps.size ≤ 100000) (hno : ∀ i, i < x.cps.size → rbad (x.cps.getD i 0) = false)
    (h : ∀ h' tk' t', (∀ b o, s.heap.get? b = some o → h'.get? b = some o) → Q (.str x t') { s with heap := h', toks := tk' }) :
    wpAny (model prog w) A (call (.builtin "re.Pattern.sub") [.ref P, .ref f, .str x t]) Q E s :=
  pickAll K_re_sub.ne (P := fun c => @K_re_sub.Pκ (c.1) (c.2.1) (c.2.2.1) (c.2.2.2.1) (c.2.2.2.2.1) (c.2.2.2.2.2.1) (c.2.2.2.2.2.2.1) (c.2.2.2.2.2.2.2.1) (c.2.2.2.2.2.2.2.2.1) (c.2.2.2.2.2.2.2.2.2)) K_re_sub.core (prog, w, A, E, s, P, f, x, t, Q) hP hf hx hz hno h
end
end Mine
end
section
open PySem PySem.W PyProof.Rows PySem.Calls
set_option Elab.async false
set_option maxRecDepth 100000
set_option maxHeartbeats 4000000
namespace Mine
theorem nrot2 {h₀ h : Heap} {L : Addr} {a b : Addr × Obj} {r : List (Addr × Obj)} (N : News h₀ L h (a :: b :: r)) : News h₀ L h (b :: a :: r) := fun q hq => N q (by
  simp only [List.mem_cons] at hq ⊢
  rcases hq with hq | hq | hq <;> simp [hq])
theorem code61 (w : World) {h : Heap} (X : (hd.heap_39 w.params).In h) : CodeHd h 61 57 := by
  w_top off
  refine fillG ?_
  k_fill
  intro _ _
  exact ⟨_, _, _, _, _, _, _, _, _, X _ _ (by k_is), rfl, rfl, rfl, rfl, rfl, rfl, rfl, rfl, by decide⟩
theorem re36 (w : World) {h : Heap} (X : (hd.heap_39 w.params).In h) : ReAt h 36 := by
  w_top off
  refine fillG ?_
  k_fill
  intro _ _
  exact ⟨_, _, _, _, _, _, _, _, _, X _ _ (by k_is), X _ _ (by k_is), rfl, by decide +kernel⟩
section
variable {prog : Program} {w : World} {A : Around} {E : Value → Shared → Prop} {s : Shared}
theorem replace_noY {l : List Nat} {c : Nat} {y z : Str} {t u v : Tok} {Q : Value → Shared → Prop} (hy : y = txt [c]) (hc : c ∉ l) (h : Q (.str (txt l) t) s) :
    wpAny (model prog w) A (call (.builtin "str.replace") [.str (txt l) t, .str y u, .str z v]) Q E s := by subst hy; exact replace_no hc h
theorem gt_no {a b : Nat} {t u : Tok} {Q : Value → Shared → Prop} (hab : a ≤ b) (h : Q (.bool false) s) : wpAny (model prog w) A (compareOp .Gt (.str (txt [a]) t) (.str (txt [b]) u)) Q E s := by
  refine PySem.P.gt_str ?_
  have e : decide ((txt [b]).cps.toList < (txt [a]).cps.toList) = false := by
    rw [decide_eq_false_iff_not]
    intro hlt
    have := (str1_lt (a := b) (b := a)).mp hlt
    lia
  rw [e]; exact h
theorem getMethod_re {M : Model} {P : Addr} {pl : Sem Bool} {Q : Value × List Value → Shared → Prop} (hP : ReAt s.heap P) (h : Q (.builtin "re.Pattern.sub", [.ref P]) s) : wpAny M A (getMethod (.ref P) (Str.ofString "sub") pl) Q E s := by
  obtain ⟨C, pt, t1, t2, t3, t4, co, xs, n, a, b, c, d⟩ := hP.ex
  exact getMethod_builtin ⟨_, a, rfl⟩ re_plain re_slot re_type (fun x e => by cases e; exact ⟨_, a, rfl⟩) h
end
theorem no_bad {l : List Nat} (h : ∀ y ∈ l, rbad y = false) : ∀ i, i < (txt l).cps.size → rbad ((txt l).cps.getD i 0) = false := by
  intro i hi
  rw [txt_size] at hi
  have e : (txt l).cps.getD i 0 = l[i] := by simp [txt, Array.getD, hi]
  rw [e]
  exact h _ (List.getElem_mem hi)
inductive PF (star b R D : Addr) (pat : List Nat) (d e : Nat) (C0 C1 : List Nat) (base : List (Addr × Obj)) (m : Str → Option Value) (news : List (Addr × Obj)) : Prop
  | mk (nc : Nat) (tj t0 t1 : Tok) (h1 : (∃ tp tq tn ti, m (Str.ofString "pat") = some (.str (txt pat) tp) ∧ m (Str.ofString "STAR") = some (.ref star) ∧ m (Str.ofString "QUESTION_MARK") = some (.str (txt [46]) tq) ∧ m (Str.ofString "add") = some (.ref b) ∧ m (Str.ofString "res") = some (.ref R) ∧
      m (Str.ofString "n") = some (.int (pat.length : Nat) tn) ∧ m (Str.ofString "i") = some (.int ((d : Int) + 1) ti))) (h2 : m (Str.ofString "j") = some (.int (e : Nat) tj)) (h3 : m (Str.ofString "chunks") = some (.ref D)) (h4 : news = (D, W.listOf (List.toArray [.str (txt C0) t0, .str (txt C1) t1]) nc) :: base) : PF star b R D pat d e C0 C1 base m news
end Mine
end
section
open PySem PySem.W PyProof.Rows PySem.Calls
set_option Elab.async false
set_option maxRecDepth 100000
set_option maxHeartbeats 4000000
namespace Mine
open PyProof.Rows.LCg (NsObj ns_obj lst lst_snoc SrcAt)
theorem safe_lo {size a b : Nat} (h : size = 32 ∨ size = 128) : Safe (sv size (min (a % size) (b % size))) := by
  rcases Nat.le_total (a % size) (b % size) with e | e
  · rw [Nat.min_eq_left e]; exact safe_sv h
  · rw [Nat.min_eq_right e]; exact safe_sv h
theorem safe_hi {size a b : Nat} (h : size = 32 ∨ size = 128) : Safe (sv size (max (a % size) (b % size))) := by
  rcases Nat.le_total (a % size) (b % size) with e | e
  · rw [Nat.max_eq_right e]; exact safe_sv h
  · rw [Nat.max_eq_left e]; exact safe_sv h
section
variable {prog : Program} {w : World} {A : Around} {E : Value → Shared → Prop} {s : Shared}
theorem truthy_txt {x : Nat} {r : List Nat} {t : Tok} {Q : Bool → Shared → Prop} (hr : ((x :: r).length : Int) < 2 ^ 63) (h : ∀ tk, Q true { s with toks := tk }) : wpAny (model prog w) A (truthy (.str (txt (x :: r)) t)) Q E s := by
  refine PySem.P.truthy_str (x := txt (x :: r)) (by rw [txt_length]; lia) ?_
  have e : (((txt (x :: r)).length : Int) != 0) = true := by rw [txt_length, List.length_cons]; simp; lia
  rw [e]; exact h _
theorem truthy_nil {l : Addr} {Q : Bool → Shared → Prop} (hl : s.heap.IsList l (List.toArray [])) (h : ∀ tk, Q false { s with toks := tk }) : wpAny (model prog w) A (truthy (.ref l)) Q E s := by
  refine wpAny_truthy_list hl (by decide) ?_
  simpa using h _
theorem truthy_snoc {l : Addr} {ys : List Value} {x : Value} {Q : Bool → Shared → Prop} (hl : s.heap.IsList l (ys ++ [x]).toArray) (hn : (ys ++ [x]).length ≤ 1000) (h : ∀ tk, Q true { s with toks := tk }) : wpAny (model prog w) A (truthy (.ref l)) Q E s := by
  refine wpAny_truthy_list hl (by rw [List.size_toArray]; lia) ?_
  have e : (!(ys ++ [x]).toArray.isEmpty) = true := by simp
  rw [e]; exact h _
end
theorem list_end {α : Type} (l : List α) : l = [] ∨ ∃ ys x, l = ys ++ [x] := by
  rcases List.eq_nil_or_concat l with h | ⟨ys, x, h⟩
  · exact .inl h
  · exact .inr ⟨ys, x, by rw [h, List.concat_eq_append]⟩
theorem off_news {h₀ h : Heap} {L R : Addr} {o1 o2 : Obj} (N : News h₀ L h [(R, o1), (57, o2)]) (hc : o1.cls = .type "list" := by rfl) (hc2 : o2.cls = .none := by rfl) : @Ne Nat 57 R := fun e => by
  have a := (N _ (.head _)).1
  have b := (N _ (.tail _ (.head _))).1
  rw [← e] at a
  rw [show (57 : Addr) = (57 : Nat) from rfl] at b
  have c : o1 = o2 := Option.some.inj (a.symm.trans b)
  rw [← c, hc] at hc2
  cases hc2
theorem news_tail3 {h₀ h : Heap} {L : Addr} {a b c d : Addr × Obj} (N : News h₀ L h [a, b, c, d]) : News h₀ L h [d, b, c] := fun p hp => N p (by
  simp only [List.mem_cons, List.not_mem_nil, or_false] at hp ⊢
  rcases hp with hp | hp | hp <;> simp [hp])
inductive NB (star b R : Addr) (pat : List Nat) (iz : Int) (m : Str → Option Value) : Prop
  | mk (tp : _) (tq : _) (tn : _) (ti : _) (h1 : m (Str.ofString "pat") = some (.str (txt pat) tp)) (h2 : m (Str.ofString "STAR") = some (.ref star)) (h3 : m (Str.ofString "QUESTION_MARK") = some (.str (txt [46]) tq)) (h4 : m (Str.ofString "add") = some (.ref b)) (h5 : m (Str.ofString "res") = some (.ref R)) (h6 : m (Str.ofString "n") = some (.int (pat.length : Nat) tn)) (h7 : m (Str.ofString "i") = some (.int iz ti)) : NB star b R pat iz m
theorem f_br {x : List Nat} : Str.empty ++ Str.ofString "[" ++ txt x ++ Str.ofString "]" = txt ([91] ++ x ++ [93]) := by
  rw [show Str.empty = txt [] from rfl, s91, s93, txt_add, txt_add, txt_add]; rfl
inductive JA (star b R : Addr) (pat : List Nat) (iz : Int) (q e : Nat) (base : List (Addr × Obj)) (k : Nat) (m : Str → Option Value) (news : List (Addr × Obj)) : Prop
  | mk (h1 : NB star b R pat iz m) (j : Nat) (tj : Tok) (h2 : m (Str.ofString "j") = some (.int (j : Nat) tj)) (h3 : q ≤ j) (h4 : j ≤ e) (h5 : k = e - j) (h6 : news = base) : JA star b R pat iz q e base k m news
inductive PA (star b R : Addr) (pat : List Nat) (iz : Int) (e : Nat) (base : List (Addr × Obj)) (m : Str → Option Value) (news : List (Addr × Obj)) : Prop
  | mk (h1 : NB star b R pat iz m) (tj : Tok) (h2 : m (Str.ofString "j") = some (.int (e : Nat) tj)) (h3 : news = base) : PA star b R pat iz e base m news
inductive JC (star b R D : Addr) (pat : List Nat) (iz kz : Int) (d e : Nat) (C0 : List Nat) (base : List (Addr × Obj)) (k : Nat) (m : Str → Option Value) (news : List (Addr × Obj)) : Prop
  | mk (i2 k2 : Int) (vals : List Value) (nc : Nat) (tj tk : Tok) (h1 : NB star b R pat i2 m) (h2 : m (Str.ofString "j") = some (.int (e : Nat) tj)) (h3 : m (Str.ofString "k") = some (.int k2 tk)) (h4 : m (Str.ofString "chunks") = some (.ref D)) (h5 : news = (D, W.listOf (List.toArray vals) nc) :: base) (h6 : ((k = 1 ∧ i2 = iz ∧ k2 = kz ∧ vals = []) ∨ (k = 0 ∧ i2 = (d : Int) + 1 ∧ k2 = (d : Int) + 3 ∧ ∃ t, vals = [.str (txt C0) t]))) : JC star b R D pat iz kz d e C0 base k m news
inductive PC (star b R D : Addr) (pat : List Nat) (d e : Nat) (C0 : List Nat) (base : List (Addr × Obj)) (m : Str → Option Value) (news : List (Addr × Obj)) : Prop
  | mk (nc : Nat) (tj t0 : Tok) (h1 : NB star b R pat ((d : Int) + 1) m) (h2 : m (Str.ofString "j") = some (.int (e : Nat) tj)) (h3 : m (Str.ofString "chunks") = some (.ref D)) (h4 : news = (D, W.listOf (List.toArray [.str (txt C0) t0]) nc) :: base) : PC star b R D pat d e C0 base m news
theorem new_first2 {h₀ h : Heap} {L D0 : Addr} {o : Obj} {rest : List (Addr × Obj)} {P : Prop} (_N : News h₀ L h ((D0, o) :: rest)) (k : ∀ D, D = D0 → P) : P := k D0 rfl

section
variable {prog : Program} {w : World} {A : Around} {s : Shared} {env : Env} {h₀ : Heap} {L : Addr} {m : Str → Option Value}
/-- where a statement ends -/
def CutE (h₀ : Heap) (L : Addr) (s : Shared) (P : (Str → Option Value) → List (Addr × Obj) → Prop) (f : Flow) (s' : Shared) : Prop :=
  f = .next ∧ ∃ h' tk' m' news', s' = { s with heap := h', toks := tk' } ∧ Fr h₀ L h' m' ∧ News h₀ L h' news' ∧ P m' news'
theorem CutE.mk {P : (Str → Option Value) → List (Addr × Obj) → Prop} {h' : Heap} {tk' : Nat} {m' : Str → Option Value} {news' : List (Addr × Obj)}
    (F : Fr h₀ L h' m') (N : News h₀ L h' news') (hP : P m' news') : CutE h₀ L s P .next { s with heap := h', toks := tk' } := ⟨rfl, h', tk', m', news', rfl, F, N, hP⟩
theorem stmt_cut {st : Stmt} {Q : Flow → Shared → Prop} (P : (Str → Option Value) → List (Addr × Obj) → Prop)
    (front : wpAny (model prog w) A (exec st env) (CutE h₀ L s P) FF s)
    (tail : ∀ m' news' h' tk', P m' news' → Fr h₀ L h' m' → News h₀ L h' news' → Q .next { s with heap := h', toks := tk' }) :
    wpAny (model prog w) A (exec st env) Q FF s := by
  refine wpAny_mono front (fun f s' h => ?_) fun _ _ e => e
  obtain ⟨rfl, h', tk', m', news', rfl, F, N, hP⟩ := h
  exact tail m' news' h' tk' hP F N
theorem truthy_ne {l : List Nat} {t : Tok} {Q : Bool → Shared → Prop} (h1 : 1 ≤ l.length) (h2 : l.length ≤ 1000) (h : ∀ tk, Q true { s with toks := tk }) : wpAny (model prog w) A (truthy (.str (txt l) t)) Q FF s := by
  cases l with
  | nil => simp at h1
  | cons x r => exact truthy_txt (by simp only [List.length_cons] at h2 ⊢; lia) h
end
theorem Fr.keep' {g h : Heap} {L : Addr} {m : Str → Option Value} (F : Fr g L h m) : Kp g h := F.keep
inductive PKz (star b R D : Addr) (pat : List Nat) (iz kz : Int) (e : Nat) (base : List (Addr × Obj)) (m : Str → Option Value) (news : List (Addr × Obj)) : Prop
  | mk (h1 : NB star b R pat iz m) (nc : Nat) (tj tk : Tok) (k2 : Int) (h2 : m (Str.ofString "j") = some (.int (e : Nat) tj)) (h3 : m (Str.ofString "chunks") = some (.ref D)) (h4 : m (Str.ofString "k") = some (.int k2 tk)) (h5 : k2 = kz) (h6 : news = (D, W.listOf (List.toArray []) nc) :: base) : PKz star b R D pat iz kz e base m news
inductive PSz (star b R : Addr) (pat : List Nat) (iz : Int) (S : List Nat) (base : List (Addr × Obj)) (m : Str → Option Value) (news : List (Addr × Obj)) : Prop
  | mk (h1 : NB star b R pat iz m) (ts : Tok) (x : Str) (h2 : m (Str.ofString "stuff") = some (.str x ts)) (h3 : x = txt S) (h4 : news = base) : PSz star b R pat iz S base m news
inductive PJz (star b R : Addr) (pat : List Nat) (iz : Int) (e : Nat) (base : List (Addr × Obj)) (m : Str → Option Value) (news : List (Addr × Obj)) : Prop
  | mk (h1 : NB star b R pat iz m) (tj : Tok) (jz : Int) (h2 : m (Str.ofString "j") = some (.int jz tj)) (h3 : jz = (e : Nat)) (h4 : news = base) : PJz star b R pat iz e base m news
/-- a bracket's facts, barred or not -/
structure BrF (neg : Bool) (pat : List Nat) (i lo hh cc : Nat) (rest : List Nat) (nn : Nat) (pre C0 SS SP : List Nat) : Prop where
  x0 : pat[i]? = some 91
  il : i < pat.length
  q0 : pat[i + 1 + nn]? = some lo
  q1 : pat[i + 2 + nn]? = some 45
  q2 : pat[i + 3 + nn]? = some hh
  q3 : pat[i + 4 + nn]? = some cc
  q4 : pat[i + 5 + nn]? = some 93
  el : i + 5 + nn < pat.length
  dr : pat.drop (i + 5 + nn + 1) = rest
  c0 : C0 = pre ++ [lo]
  sS : Txt.slice (txt pat) (some ((i : Int) + 1)) (some ((i + 5 + nn : Nat) : Int)) = txt SS
  sC : Txt.slice (txt pat) (some ((i : Int) + 1)) (some ((i + 2 + nn : Nat) : Int)) = txt C0
  sH : Txt.slice (txt pat) (some (((i + 2 + nn : Nat) : Int) + 1)) (some ((i + 5 + nn : Nat) : Int)) = txt [hh, cc]
  n1 : nn ≤ 1
  has : 45 ∈ SS
  len : 1 ≤ SS.length ∧ SS.length ≤ 5
  clen : C0.length ≤ 2
  plen : SP.length ≤ 5
  pp : pre.length ≤ 1
  one : (txt SS == Str.ofString "!") = false
  jn : joinL [45] [C0, [hh, cc]] = SS
  mem : ∀ y ∈ SS, y = 33 ∨ y = lo ∨ y = 45 ∨ y = hh ∨ y = cc
  cmem : ∀ y ∈ C0, y = 33 ∨ y = lo
  sp : SP = (if neg then [94] else []) ++ [lo, 45, hh, cc]
theorem brF {neg : Bool} {pat : List Nat} {i lo hh cc : Nat} {rest : List Nat} (hd : pat.drop i = (91 :: ((if neg then [33] else []) ++ [lo, 45, hh, cc, 93])) ++ rest) :
    ∃ nn pre C0 SS SP, BrF neg pat i lo hh cc rest nn pre C0 SS SP ∧ nn = (if neg then 1 else 0) ∧ SS = (if neg then [33] else []) ++ [lo, 45, hh, cc] := by
  cases neg with
  | false =>
    replace hd : pat.drop i = 91 :: lo :: 45 :: hh :: cc :: 93 :: rest := hd
    obtain ⟨hx, hilt, hd3⟩ := at_drop hd
    obtain ⟨hxl, hil1, hd4⟩ := at_drop hd3
    obtain ⟨hxm, hil2, hd5⟩ := at_drop hd4
    obtain ⟨hxh, hil3, hd6⟩ := at_drop hd5
    obtain ⟨hxc, hil4, hd7⟩ := at_drop hd6
    obtain ⟨hxe, hil5, hd8⟩ := at_drop hd7
    refine ⟨0, [], [lo], [lo, 45, hh, cc], [lo, 45, hh, cc], ⟨hx, hilt, hxl, hxm, hxh, hxc, hxe, hil5, hd8, rfl, ?_, ?_, ?_, by decide, by simp, by simp, by simp, by simp, by simp, ?_, rfl, ?_, ?_, rfl⟩, rfl, rfl⟩
    · exact (slice_txt pat (i + 1) (i + 5) (Nat.add_le_add_left (by decide) i)).trans (by rw [hd3, show i + 5 - (i + 1) = 4 from Nat.add_sub_add_left i 5 1]; rfl)
    · exact (slice_txt pat (i + 1) (i + 2) (Nat.add_le_add_left (by decide) i)).trans (by rw [hd3, show i + 2 - (i + 1) = 1 from Nat.add_sub_add_left i 2 1]; rfl)
    · exact (slice_txt pat (i + 2 + 1) (i + 5) (Nat.add_le_add_left (show 3 ≤ 5 by decide) i)).trans (by rw [show pat.drop (i + 2 + 1) = _ from hd5, show i + 5 - (i + 2 + 1) = 2 from Nat.add_sub_add_left i 5 3]; rfl)
    · rw [s33, txt_beq, decide_eq_false_iff_not]; simp
    · intro y hy; simp only [List.mem_cons, List.not_mem_nil, or_false] at hy; first | exact hy | exact .inr hy | lia
    · intro y hy; simp only [List.mem_cons, List.not_mem_nil, or_false] at hy; first | exact hy | exact .inr hy | lia
  | true =>
    replace hd : pat.drop i = 91 :: 33 :: lo :: 45 :: hh :: cc :: 93 :: rest := hd
    obtain ⟨hx, hilt, hd3⟩ := at_drop hd
    obtain ⟨hxn, hiln, hdq⟩ := at_drop hd3
    obtain ⟨hxl, hil1, hd4⟩ := at_drop hdq
    obtain ⟨hxm, hil2, hd5⟩ := at_drop hd4
    obtain ⟨hxh, hil3, hd6⟩ := at_drop hd5
    obtain ⟨hxc, hil4, hd7⟩ := at_drop hd6
    obtain ⟨hxe, hil5, hd8⟩ := at_drop hd7
    refine ⟨1, [33], [33, lo], [33, lo, 45, hh, cc], [94, lo, 45, hh, cc], ⟨hx, hilt, hxl, hxm, hxh, hxc, hxe, hil5, hd8, rfl, ?_, ?_, ?_, by decide, by simp, by simp, by simp, by simp, by simp, ?_, rfl, ?_, ?_, rfl⟩, rfl, rfl⟩
    · exact (slice_txt pat (i + 1) (i + 6) (Nat.add_le_add_left (by decide) i)).trans (by rw [hd3, show i + 6 - (i + 1) = 5 from Nat.add_sub_add_left i 6 1]; rfl)
    · exact (slice_txt pat (i + 1) (i + 3) (Nat.add_le_add_left (by decide) i)).trans (by rw [hd3, show i + 3 - (i + 1) = 2 from Nat.add_sub_add_left i 3 1]; rfl)
    · exact (slice_txt pat (i + 3 + 1) (i + 6) (Nat.add_le_add_left (show 4 ≤ 6 by decide) i)).trans (by rw [show pat.drop (i + 3 + 1) = _ from hd5, show i + 6 - (i + 3 + 1) = 2 from Nat.add_sub_add_left i 6 4]; rfl)
    · rw [s33, txt_beq, decide_eq_false_iff_not]; simp
    · intro y hy; simp only [List.mem_cons, List.not_mem_nil, or_false] at hy; first | exact hy | exact .inr hy | lia
    · intro y hy; simp only [List.mem_cons, List.not_mem_nil, or_false] at hy; first | exact hy | exact .inr hy | lia
theorem BrF.nx {neg : Bool} {pat : List Nat} {i lo hh cc : Nat} {rest : List Nat} (hd : pat.drop i = (91 :: ((if neg then [33] else []) ++ [lo, 45, hh, cc, 93])) ++ rest) : pat[i + 1]? = some (if neg then 33 else lo) := by
  cases neg with
  | false => exact (at_drop (at_drop (r := lo :: 45 :: hh :: cc :: 93 :: rest) hd).2.2).1
  | true => exact (at_drop (at_drop (r := 33 :: lo :: 45 :: hh :: cc :: 93 :: rest) hd).2.2).1

end Mine
end
section
open PySem PySem.W PyProof.Rows PySem.Calls
open PyProof.Rows.LCg (NsObj ns_obj lst lst_snoc SrcAt)
set_option Elab.async false
set_option maxRecDepth 100000
set_option maxHeartbeats 4000000
namespace Mine
section
variable {prog : Program} {w : World} {A : Around} {s : Shared} {env : Env} {h₀ : Heap} {L : Addr} {m : Str → Option Value}
def TPost (h₀ : Heap) (L I : Addr) (oI : Obj) (s₁ : Shared) (P : (Str → Option Value) → List (Addr × Obj) → Prop) (f : Flow) (s' : Shared) : Prop :=
  f = .next ∧ ∃ h' tk' g' m' news', s' = { s₁ with heap := h', toks := tk', gens := g' } ∧ (AllBare s₁.gens → AllBare g') ∧ Fr h₀ L h' m' ∧ News h₀ L h' ((I, oI) :: news') ∧ (∀ p ∈ news', p.1 ≠ I) ∧ P m' news'
theorem TPost.mk {I : Addr} {oI : Obj} {s₁ : Shared} {P : (Str → Option Value) → List (Addr × Obj) → Prop} {h' : Heap} {tk' : Nat} {g' : Array GenState} {m' : Str → Option Value} {all news' : List (Addr × Obj)} (ab : AllBare s₁.gens → AllBare g')
    (F : Fr h₀ L h' m') (N : News h₀ L h' all) (hI : (I, oI) ∈ all) (sub : ∀ p ∈ news', p ∈ all) (off : ∀ p ∈ news', p.1 ≠ I) (hP : P m' news') : TPost h₀ L I oI s₁ P .next { s₁ with heap := h', toks := tk', gens := g' } :=
  ⟨rfl, h', tk', g', m', news', rfl, ab, F, fun p hp => N p (by
    rcases List.mem_cons.mp hp with rfl | hp
    · exact hI
    · exact sub p hp), off, hP⟩
def K_my_forT.P (x : Str) (px : Pos) (pos : Pos) (iter : Expr) (body : List Stmt) (Q : Flow → Shared → Prop) : Prop :=
  ∀ (hh : A.handled = none) (hs : ∀ z, foldedSetIterable iter env z = pure z) (h : wpAny (model prog w) A (eval iter env) (fun xv s₁ => Hold (∃ (t : Addr) (vs : List Value) (J : Nat → (Str → Option Value) → List (Addr × Obj) → Prop) (news : List (Addr × Obj)) (m : Str → Option Value),
      xv = .ref t ∧ Fr h₀ L s₁.heap m ∧ News h₀ L s₁.heap news ∧ J 0 m news ∧ (∀ i m news, J i m news → ∃ n, (t, tupObj vs.toArray n) ∈ news) ∧
      (∀ i v m₁ news₁ h tk g I oI, vs[i]? = some v → oI.data = .fields #[.ref t, .int ((i : Int) + 1) 0] → J i m₁ news₁ → (AllBare s₁.gens → AllBare g) → Fr h₀ L h m₁ → News h₀ L h ((I, oI) :: news₁) → (∀ p ∈ news₁, p.1 ≠ I) →
        wpAny (model prog w) A (assign (.Name x px) env v) (fun _ s₂ => wpAny (model prog w) A (execs body env) (fun f s' => Hold (TPost h₀ L I oI s₁ (J (i + 1)) f s')) FF s₂) FF { s₁ with heap := h, toks := tk, gens := g }) ∧
      (∀ m₁ news₁ h tk g, J vs.length m₁ news₁ → (AllBare s₁.gens → AllBare g) → Fr h₀ L h m₁ → News h₀ L h news₁ → Q .next { s₁ with heap := h, toks := tk, gens := g }))) FF s), wpAny (model prog w) A (exec (.For (.Name x px) iter body [] pos) env) Q FF s
end
namespace K_my_forT
theorem ne : Nonempty ((Program) × (World) × (Around) × (Shared) × (Env) × (Heap) × (Addr) × (Str) × (Pos) × (Pos) × (Expr) × (List Stmt) × (Flow → Shared → Prop)) := ⟨(Classical.ofNonempty, w0, ⟨none, 0, none, none, 0⟩, {}, Classical.ofNonempty, Classical.ofNonempty, Classical.ofNonempty, Classical.ofNonempty, Classical.ofNonempty, Classical.ofNonempty, Classical.ofNonempty, Classical.ofNonempty, Classical.ofNonempty)⟩
noncomputable def κ : (Program) × (World) × (Around) × (Shared) × (Env) × (Heap) × (Addr) × (Str) × (Pos) × (Pos) × (Expr) × (List Stmt) × (Flow → Shared → Prop) := pick ne fun c => ¬ @P (c.1) (c.2.1) (c.2.2.1) (c.2.2.2.1) (c.2.2.2.2.1) (c.2.2.2.2.2.1) (c.2.2.2.2.2.2.1) (c.2.2.2.2.2.2.2.1) (c.2.2.2.2.2.2.2.2.1) (c.2.2.2.2.2.2.2.2.2.1) (c.2.2.2.2.2.2.2.2.2.2.1) (c.2.2.2.2.2.2.2.2.2.2.2.1) (c.2.2.2.2.2.2.2.2.2.2.2.2)
noncomputable def prog : Program := κ.1
noncomputable def w : World := κ.2.1
noncomputable def A : Around := κ.2.2.1
noncomputable def s : Shared := κ.2.2.2.1
noncomputable def env : Env := κ.2.2.2.2.1
noncomputable def h₀ : Heap := κ.2.2.2.2.2.1
noncomputable def L : Addr := κ.2.2.2.2.2.2.1
noncomputable def x : Str := κ.2.2.2.2.2.2.2.1
noncomputable def px : Pos := κ.2.2.2.2.2.2.2.2.1
noncomputable def pos : Pos := κ.2.2.2.2.2.2.2.2.2.1
noncomputable def iter : Expr := κ.2.2.2.2.2.2.2.2.2.2.1
noncomputable def body : List Stmt := κ.2.2.2.2.2.2.2.2.2.2.2.1
noncomputable def Q : Flow → Shared → Prop := κ.2.2.2.2.2.2.2.2.2.2.2.2
theorem core : @P prog w A s env h₀ L x px pos iter body Q := by
  intro hh hs h
  refine wpAny_For (wpAny_mono h (fun xv s₁ h₁ => ?_) fun _ _ e => e) hs
  obtain ⟨t, vs, J, news, m, rfl, F, N, hJ, hsrc, turn, fin⟩ := h₁
  obtain ⟨n0, hm0⟩ := hsrc _ _ _ hJ
  have ht : s₁.heap.IsTuple t vs.toArray := ⟨_, (N _ hm0).1, rfl, _, rfl⟩
  refine wpAny_pyIter_tuple ht ?_
  generalize hH : s₁.heap.push { cls := .type "tuple_iterator", data := .fields #[.ref t, .int 0 0] } = H
  have up : Kp s₁.heap H := fun b o e => hH ▸ Heap.get?_push_of_some _ e
  have hI : H.get? s₁.heap.objs.size = some { cls := .type "tuple_iterator", data := .fields #[.ref t, .int 0 0] } := hH ▸ Heap.get?_push_size _ rfl
  let Ob : Nat → Obj → Prop := fun i oI => oI.cls = .type "tuple_iterator" ∧ oI.data = .fields #[.ref t, .int i 0]
  have offI : ∀ p ∈ news, p.1 ≠ s₁.heap.objs.size := fun p hp => Nat.ne_of_lt (Heap.lt_size (N p hp).1)
  refine codeAny_forLoop_any (fun k s' => ∃ h' tk g' m' nw i oI, s' = { s₁ with heap := h', toks := tk, gens := g' } ∧ k = vs.length + 1 - i ∧ i ≤ vs.length ∧ (AllBare s₁.gens → AllBare g') ∧ Fr h₀ L h' m' ∧ News h₀ L h' ((s₁.heap.objs.size, oI) :: nw) ∧ (∀ p ∈ nw, p.1 ≠ s₁.heap.objs.size) ∧ Ob i oI ∧ J i m' nw) ?_ (vs.length + 1)
    ⟨H, s₁.toks, s₁.gens, m, news, 0, { cls := .type "tuple_iterator", data := .fields #[.ref t, .int 0 0] }, rfl, rfl, Nat.zero_le _, id, fr_after F up, fun p hp => ?_, offI, ⟨rfl, rfl⟩, hJ⟩
  · intro k s' hq1
    (try k_fold)
    obtain ⟨h', tk', g', m', nw, i, oI, rfl, rfl, hi, ab, F', N', hoff, hob, hJ'⟩ := hq1
    have zI := N' _ List.mem_cons_self
    obtain ⟨n1, hm1⟩ := hsrc _ _ _ hJ'
    have ht' : h'.IsTuple t vs.toArray := ⟨_, (N' _ (.tail _ hm1)).1, rfl, _, rfl⟩
    have hit : h'.IsTupleIter s₁.heap.objs.size t i := ⟨oI, zI.1, hob.1, hob.2⟩
    by_cases hlt : i < vs.length
    · refine wpAny_pyNext_tuple_item hit ht' (x := vs[i]) (by simp [hlt]) fun h2 hit2 hs2 => ?_
      obtain ⟨oI2, e2, hc2, hd2⟩ := id hit2
      refine wpAny_pure ?_
      have N2 : News h₀ L h2 ((s₁.heap.objs.size, oI2) :: nw) := fun p hp => by
        rcases List.mem_cons.mp hp with rfl | hp
        · exact ⟨e2, zI.2⟩
        · exact ⟨(hs2.2 _ (hoff p hp)).trans (N' p (.tail _ hp)).1, (N' p (.tail _ hp)).2⟩
      refine wpAny_noRaise (wpAny_mono (turn i vs[i] m' nw h2 tk' g' _ oI2 (by simp [hlt]) hd2 hJ' ab (F'.change hs2 zI.2.1 zI.2.2) N2 hoff) (fun _ s3 h3 => ?_) fun _ _ e => e)
      refine wpAny_noRaise (wpAny_mono h3 (fun f s4 h4 => ?_) fun _ _ e => e)
      obtain ⟨rfl, h5, tk5, g5, m5, nw5, rfl, ab5, F5, N5, off5, hJ5⟩ := h4
      exact ⟨vs.length + 1 - (i + 1), decK (Nat.le_of_succ_le (by assumption)) (by decide), h5, tk5, g5, m5, nw5, i + 1, oI2, rfl, rfl, hlt, ab5, F5, N5, off5, ⟨hc2, hd2⟩, hJ5⟩
    · obtain rfl : i = vs.length := Nat.le_antisymm hi (Nat.not_lt.mp hlt)
      refine wpAny_pyNext_tuple_end hh hit ht' (by simp) fun h2 he2 => ?_
      have z : ∀ b o, b ≠ s₁.heap.objs.size → h'.get? b = some o → h2.get? b = some o := fun b o hb e => he2 b o hb e
      refine wpAny_execs_nil (fin m' nw h2 tk' g' hJ' ab ⟨F'.ns.at' fun o e => z _ o (Ne.symm zI.2.1) e, fun b o e => z b o (fun q => by rw [q, zI.2.2] at e; cases e) (F'.keep b o e), F'.above⟩ fun p hp => ⟨z _ _ (hoff p hp) (N' p (.tail _ hp)).1, (N' p (.tail _ hp)).2⟩)
  · rcases List.mem_cons.mp hp with rfl | hp
    · exact ⟨hI, Nat.ne_of_gt F.ns.lt, next_is_new F⟩
    · exact ⟨up _ _ (N p hp).1, (N p hp).2⟩
end K_my_forT
section
variable {prog : Program} {w : World} {A : Around} {s : Shared} {env : Env} {h₀ : Heap} {L : Addr} {m : Str → Option Value}
theorem my_forT {x : Str} {px pos : Pos} {iter : Expr} {body : List Stmt} {Q : Flow → Shared → Prop} (hh : A.handled = none) (hs : ∀ z, foldedSetIterable iter env z = pure z)
    (h : wpAny (model prog w) A (eval iter env) (fun xv s₁ => Hold (∃ (t : Addr) (vs : List Value) (J : Nat → (Str → Option Value) → List (Addr × Obj) → Prop) (news : List (Addr × Obj)) (m : Str → Option Value),
      xv = .ref t ∧ Fr h₀ L s₁.heap m ∧ News h₀ L s₁.heap news ∧ J 0 m news ∧ (∀ i m news, J i m news → ∃ n, (t, tupObj vs.toArray n) ∈ news) ∧
      (∀ i v m₁ news₁ h tk g I oI, vs[i]? = some v → oI.data = .fields #[.ref t, .int ((i : Int) + 1) 0] → J i m₁ news₁ → (AllBare s₁.gens → AllBare g) → Fr h₀ L h m₁ → News h₀ L h ((I, oI) :: news₁) → (∀ p ∈ news₁, p.1 ≠ I) →
        wpAny (model prog w) A (assign (.Name x px) env v) (fun _ s₂ => wpAny (model prog w) A (execs body env) (fun f s' => Hold (TPost h₀ L I oI s₁ (J (i + 1)) f s')) FF s₂) FF { s₁ with heap := h, toks := tk, gens := g }) ∧
      (∀ m₁ news₁ h tk g, J vs.length m₁ news₁ → (AllBare s₁.gens → AllBare g) → Fr h₀ L h m₁ → News h₀ L h news₁ → Q .next { s₁ with heap := h, toks := tk, gens := g }))) FF s) :
    wpAny (model prog w) A (exec (.For (.Name x px) iter body [] pos) env) Q FF s :=
  pickAll K_my_forT.ne (P := fun c => @K_my_forT.P (c.1) (c.2.1) (c.2.2.1) (c.2.2.2.1) (c.2.2.2.2.1) (c.2.2.2.2.2.1) (c.2.2.2.2.2.2.1) (c.2.2.2.2.2.2.2.1) (c.2.2.2.2.2.2.2.2.1) (c.2.2.2.2.2.2.2.2.2.1) (c.2.2.2.2.2.2.2.2.2.2.1) (c.2.2.2.2.2.2.2.2.2.2.2.1) (c.2.2.2.2.2.2.2.2.2.2.2.2)) K_my_forT.core (prog, w, A, s, env, h₀, L, x, px, pos, iter, body, Q) hh hs h
end
end Mine
end
section
open PySem PySem.W PyProof.Rows PySem.Calls
set_option Elab.async false
set_option maxRecDepth 100000
set_option maxHeartbeats 40000000
namespace Mine
open PyProof.Rows.LCg (NsObj ns_obj lst lst_snoc SrcAt)
open PySem.Builtin.Str
def PieceIn (tl : List (Addr × Obj)) (v : Value) (p : SPiece) : Prop := ∃ (pc le : Addr) (vs : List Value) (n1 n2 : Nat), v = .ref pc ∧ (pc, tupObj #[.bool p.1, .ref le] n1) ∈ tl ∧ (le, W.listOf (List.toArray vs) n2) ∈ tl ∧ All2 (EndIn tl) vs p.2
theorem PieceIn.mono {tl tl' : List (Addr × Obj)} {v : Value} {e : SPiece} (x : PieceIn tl v e) (k : ∀ p ∈ tl, p ∈ tl') : PieceIn tl' v e := by
  obtain ⟨pc, le, vs, n1, n2, e, a, b, c⟩ := x; exact ⟨pc, le, vs, n1, n2, e, k _ a, k _ b, c.mono fun _ _ q => q.mono k⟩
def RunIn (tl : List (Addr × Obj)) (v : Value) (r : List SPiece) : Prop := ∃ (l : Addr) (vs : List Value) (n : Nat), v = .ref l ∧ (l, W.listOf (List.toArray vs) n) ∈ tl ∧ All2 (PieceIn tl) vs r
theorem RunIn.mono {tl tl' : List (Addr × Obj)} {v : Value} {e : List SPiece} (x : RunIn tl v e) (k : ∀ p ∈ tl, p ∈ tl') : RunIn tl' v e := by
  obtain ⟨l, vs, n, e, a, b⟩ := x; exact ⟨l, vs, n, e, k _ a, b.mono fun _ _ q => q.mono k⟩
def RunsIn (tl : List (Addr × Obj)) (v : Value) (rs : List (List SPiece)) : Prop := ∃ (l : Addr) (vs : List Value) (n : Nat), v = .ref l ∧ (l, W.listOf (List.toArray vs) n) ∈ tl ∧ All2 (RunIn tl) vs rs
def stStr : Nat → Str
  | 0 => Str.ofString "" | 1 => Str.ofString "(" | 2 => Str.ofString ")" | _ => Str.ofString "."
theorem S_setZ (w : World) (h : Heap) (tx : List Nat) (k : Int) (t tk0 : Tok) (hS : St w h) (hT : tx.length ≤ 1000) (h0 : 0 ≤ k) : Spec w 130 [.str (txt tx) t, .int k tk0] 6 600 h (fun tl v => SetOut tx k.toNat tl v) := by
  obtain ⟨n, rfl⟩ := Int.eq_ofNat_of_zero_le h0
  exact S_set w h tx n t tk0 hS hT
theorem tup_in {h₀ h : Heap} {L p : Addr} {items : Array Value} {n : Nat} {news : List (Addr × Obj)} (N : News h₀ L h news) (hm : (p, tupObj items n) ∈ news) : IsTup h p items := ⟨_, (N _ hm).1, rfl, _, rfl⟩
theorem news_tail {h₀ h : Heap} {L : Addr} {a : Addr × Obj} {r : List (Addr × Obj)} (N : News h₀ L h (a :: r)) : News h₀ L h r := fun p hp => N p (.tail _ hp)
theorem stStr_len (st : Nat) : (stStr st).length ≤ 1 := by unfold stStr; split <;> decide
theorem F00 : ([Str.ofString "", Str.ofString ")"].any fun x => x == Str.ofString "") = true := by decide
theorem F01 : ([Str.ofString "", Str.ofString ")"].any fun x => x == Str.ofString "(") = false := by decide
theorem F02 : ([Str.ofString "", Str.ofString ")"].any fun x => x == Str.ofString ")") = true := by decide
theorem F03 : ([Str.ofString "", Str.ofString ")"].any fun x => x == Str.ofString ".") = false := by decide
theorem F10 : (Str.ofString "" == Str.ofString "(") = false := by decide
theorem F11 : (Str.ofString "(" == Str.ofString "(") = true := by decide
theorem F12 : (Str.ofString ")" == Str.ofString "(") = false := by decide
theorem F13 : (Str.ofString "." == Str.ofString "(") = false := by decide
theorem F20 : (Str.ofString "" == Str.ofString ")") = false := by decide
theorem F21 : (Str.ofString "(" == Str.ofString ")") = false := by decide
theorem F22 : (Str.ofString ")" == Str.ofString ")") = true := by decide
theorem F23 : (Str.ofString "." == Str.ofString ")") = false := by decide

inductive RJ (tx : List Nat) (t : Tok) (toks : List Tk) (n : Nat) (m : Str → Option Value) (news : List (Addr × Obj)) : Prop
  | mk (k : Nat) (tk : Tok) (st : Nat) (b : Str) (tb : Tok) (R la : Addr) (rv cur : List Value) (n1 n2 : Nat) (extra : List (Addr × Obj)) (rest : List Tk) (dn : List (List SPiece)) (cr : List SPiece) (h1 : m (Str.ofString "k") = some (.int k tk)) (h2 : m (Str.ofString "begun") = some (.str b tb)) (h3 : m (Str.ofString "runs") = some (.ref R)) (h4 : m (Str.ofString "text") = some (.str (txt tx) t)) (h5 : b = stStr st) (h6 : news = (R, W.listOf (rv ++ [Value.ref la]).toArray n1) :: (la, W.listOf (List.toArray cur) n2) :: extra) (h7 : (∀ p ∈ extra, p.1 ≠ R)) (h8 : (∀ p ∈ extra, p.1 ≠ la)) (h9 : @Ne Nat la R) (h10 : n = tx.length + 1 - k) (h11 : tx.drop k = flat rest ++ [41, 92, 90]) (h12 : WF st rest) (h13 : All2 (RunIn extra) rv dn) (h14 : All2 (PieceIn extra) cur cr) (h15 : tkRuns rest dn cr = tkRuns toks [] []) (h16 : cur.length ≤ k) (h17 : rv.length ≤ k) : RJ tx t toks n m news
def midTk : Tk → Bool
  | .dot | .set .. | .sign _ => true
  | _ => false
theorem mid_facts {tx : List Nat} {k st : Nat} {tk : Tk} {r : List Tk} (h : midTk tk = true) (hwf : WF st (tk :: r)) (hd : tx.drop k = tk.text ++ (flat r ++ [41, 92, 90])) :
    (stStr st == Str.ofString ")") = false ∧ (Txt.slice (txt tx) (some (k : Int)) (some ((k : Int) + 6)) == Str.ofString "(?>.*?") = false ∧ (Txt.slice (txt tx) (some (k : Int)) (some ((k : Int) + 2)) == Str.ofString ".*") = false ∧
      (occurrences (Str.ofString "()]{}*+?|^$") (Txt.item (txt tx) (k : Int)) 0 (Str.ofString "()]{}*+?|^$").length 1).isEmpty = true ∧ (Txt.item (txt tx) (k : Int) == Str.ofString ")") = false := by
  have hst : st = 0 ∨ st = 1 ∨ st = 3 := by
    cases tk with
    | dot => exact hwf.1
    | set _ _ _ _ => exact hwf.1
    | sign _ => exact hwf.1
    | _ => cases h
  refine ⟨by rcases hst with rfl | rfl | rfl <;> decide, ?_⟩
  have key : ∃ x e, tx.drop k = x :: e ∧ x ≠ 40 ∧ ¬ (x = 46 ∧ e.head? = some 42) ∧ (x = 92 ∨ x = 91 ∨ x = 46 ∨ Safe x) ∧ x ≠ 41 := by
    cases tk with
    | dot =>
      refine ⟨46, flat r ++ [41, 92, 90], hd, by decide, ?_, .inr (.inr (.inl rfl)), by decide⟩
      rintro ⟨_, q⟩
      obtain ⟨y, r', e, hy⟩ := flat_head hwf.2 (tail := [92, 90])
      rw [show flat r ++ [41, 92, 90] = y :: r' from e] at q
      exact hy (by simpa using q)
    | set neg a b c =>
      refine ⟨91, ((if neg then [94] else []) ++ [a, 45, b, c, 93]) ++ flat r ++ [41, 92, 90], (by rw [hd]; simp [Tk.text]), by decide, fun q => absurd q.1 (by decide), .inr (.inl rfl), by decide⟩
    | sign c =>
      obtain ⟨x, er, hx0, hx⟩ := esc_head hwf.2.1
      have hxx : x = 92 ∨ Safe x := hx
      refine ⟨x, er ++ (flat r ++ [41, 92, 90]), (by rw [hd]; show esc c ++ _ = _; rw [hx0]; rfl), ?_, ?_, ?_, ?_⟩
      · intro e; subst e; exact absurd hx (by unfold Safe; decide)
      · rintro ⟨e, _⟩; subst e; exact absurd hx (by unfold Safe; decide)
      · rcases hxx with q | q; exact .inl q; exact .inr (.inr (.inr q))
      · intro e; subst e; exact absurd hx (by unfold Safe; decide)
    | _ => cases h
  obtain ⟨x, e, hx, h1, h2, h3, h4⟩ := key
  exact ⟨H6f hx h1, H2f hx h2, HO hx h3, by rw [HI s41 hx]; exact decide_eq_false h4⟩
section
local macro_rules | `(tactic| walk_at "execs cons") => `(tactic| wtm_at "mXC")
local macro_rules | `(tactic| walk_at "exec If") => `(tactic| with_reducible refine Mine.StopBO ?_)
local macro_rules | `(tactic| walk_at "eval Name") => `(tactic| wtm_at "mNM")

local macro_rules | `(tactic| walk_at "subscriptTail Name UnaryOp ref int") => `(tactic| wtm_at "mS")
namespace K_S_runs
def P (w : World) (h : Heap) (t : Tok) (toks : List Tk) (dp : Nat) (un : Nat) (fr : Option (List Env)) (gd : Option (List Code)) (s : Shared) (Q : Value → Shared → Prop) (E : Value → Shared → Prop) : Prop :=
  ∀ (tx : List Nat) (hS : St w h) (hT : tx.length ≤ 1000) (htx : tx = [40, 63, 115, 58] ++ flat toks ++ [41, 92, 90]) (hwf : WF 0 toks), SpecAt w 137 [.str (txt tx) t] 10 900 h (fun tl v => RunsIn tl v (tkRuns toks [] [])) dp un fr gd s Q E
theorem ne : Nonempty ((World) × (Heap) × (Tok) × (List Tk) × (Nat) × (Nat) × (Option (List Env)) × (Option (List Code)) × (Shared) × (Value → Shared → Prop) × (Value → Shared → Prop)) := ⟨(w0, Classical.ofNonempty, Classical.ofNonempty, Classical.ofNonempty, Classical.ofNonempty, Classical.ofNonempty, Classical.ofNonempty, Classical.ofNonempty, {}, Classical.ofNonempty, Classical.ofNonempty)⟩
noncomputable def κ : (World) × (Heap) × (Tok) × (List Tk) × (Nat) × (Nat) × (Option (List Env)) × (Option (List Code)) × (Shared) × (Value → Shared → Prop) × (Value → Shared → Prop) := pick ne fun c => ¬ P (c.1) (c.2.1) (c.2.2.1) (c.2.2.2.1) (c.2.2.2.2.1) (c.2.2.2.2.2.1) (c.2.2.2.2.2.2.1) (c.2.2.2.2.2.2.2.1) (c.2.2.2.2.2.2.2.2.1) (c.2.2.2.2.2.2.2.2.2.1) (c.2.2.2.2.2.2.2.2.2.2)
noncomputable def w : World := κ.1
noncomputable def h : Heap := κ.2.1
noncomputable def t : Tok := κ.2.2.1
noncomputable def toks : List Tk := κ.2.2.2.1
noncomputable def dp : Nat := κ.2.2.2.2.1
noncomputable def un : Nat := κ.2.2.2.2.2.1
noncomputable def fr : Option (List Env) := κ.2.2.2.2.2.2.1
noncomputable def gd : Option (List Code) := κ.2.2.2.2.2.2.2.1
noncomputable def s : Shared := κ.2.2.2.2.2.2.2.2.1
noncomputable def Q : Value → Shared → Prop := κ.2.2.2.2.2.2.2.2.2.1
noncomputable def E : Value → Shared → Prop := κ.2.2.2.2.2.2.2.2.2.2
noncomputable def L : Addr := Heap.objs h |>.size
noncomputable def h₁ (tx : List Nat) : Heap := (HT (hd.heap_39 w.params) 137 w h L dp un fr gd s Q [(Str.ofString "text", .str (txt tx) t)]).1
noncomputable def tk (tx : List Nat) : Nat := (HT (hd.heap_39 w.params) 137 w h L dp un fr gd s Q [(Str.ofString "text", .str (txt tx) t)]).2
noncomputable def pre : PSigma fun T : (List Nat) → (Heap) → (Str → Option Value) → (Heap) → (Nat) → (Nat) → (Tok) → (Nat) → (Tok) → (Addr) → (Addr) → (List Value) → (List Value) → (Nat) → (Nat) → (List (Addr × Obj)) → (List Tk) → (List (List SPiece)) → (List SPiece) → Prop => (∀ tx hz m₁ h3 tk3 k tk st tb R la rv cur n1 n2 extra rest dn cr, T tx hz m₁ h3 tk3 k tk st tb R la rv cur n1 n2 extra rest dn cr) → P w h t toks dp un fr gd s Q E := ⟨_, fun turn => by
  intro tx hS hT htx hwf hdp hun hh hQ
  w_top off
  refine fillG ?_
  k_fill
  intro _ _
  obtain ⟨X, T⟩ := St.top hS
  refine' enterE (K := hd.heap_39 w.params) hdp hh L rfl X T [(Str.ofString "text", .str (txt tx) t)] ?k3 ?k4 (by (first | lia (splits := 0) | omega)) ?k6 ?k7 ?k8 ?k9 ?k10 ?k11 (h₁ tx) rfl (tk tx) rfl ?_
  case k3 => k_is
  case k4 => k_is
  case k6 => exact rfl
  case k7 => decide
  case k8 => exact locs rfl
  case k9 => exact rfl
  case k10 => exact rfl
  case k11 => exact rfl
  intro F N
  have hL : L = h.objs.size := rfl
  try dsimp only
  have hnt : (txt tx).length ≤ 2000 := by rw [txt_length]; exact Nat.le_trans hT (by decide)
  have hnt' : (txt tx).length = tx.length := txt_length
  k_steps
  repeat' ((first | ((with_reducible refine Stop.subU ?_); (with_reducible rename News _ _ _ _ => N'); (try simp only [List.cons_append, List.append_assoc] at N'); refine item_last (by is_list) (by assumption) ?_ (by with_unfolding_all rfl))); (try k_steps))
  unfold Stop
  (with_reducible rename Fr _ _ _ _ => Fx)
  (with_reducible rename News _ _ _ _ => Nx)
  rename Heap => hz
  refine my_while (RJ tx t toks) (n₀ := tx.length + 1 - 4) Fx (news_tail Nx)
      ?first ?turn
  case first =>
    have hd4 : tx.drop 4 = flat toks ++ [41, 92, 90] := by rw [htx]; rfl
    (repeat (with_reducible rename _ ∧ _ => qq; have zq1 := And.left qq; have zq2 := And.right qq; clear qq))
    refine ⟨4, _, 0, _, _, _, _, [], [], _, 0, [], toks, [], [], (by repeat (first | with_reducible assumption | with_reducible exact if_pos rfl | refine (if_neg (by decide)).trans ?_ | rfl)), (by repeat (first | with_reducible assumption | with_reducible exact if_pos rfl | refine (if_neg (by decide)).trans ?_ | rfl)), (by repeat (first | with_reducible assumption | with_reducible exact if_pos rfl | refine (if_neg (by decide)).trans ?_ | rfl)), (by repeat (first | with_reducible assumption | with_reducible exact if_pos rfl | refine (if_neg (by decide)).trans ?_ | rfl)), rfl, rfl, off_nil, off_nil, by (first | lia (splits := 0) | omega), rfl, hd4, hwf, All2.nil, All2.nil, rfl, Nat.zero_le _, Nat.zero_le _⟩
  intro n m₁ news₁ h3 tk3 hq1 F3 N3
  obtain ⟨k, tk, st, b, tb, R, la, rv, cur, n1, n2, extra, rest, dn, cr, mk, mb, mr, mx, rfl, rfl, offR, offl, hne, rfl, hdrop, hwf, hrv, hcur, hruns, hcl, hrl⟩ := hq1
  clear Fx Nx
  (try dsimp +zetaDelta only)
  revert hS hT htx X T hdp hun hQ hnt hnt' F3 N3 mk mb mr mx offR offl hne hdrop hwf hrv hcur hruns hcl hrl
  exact turn tx hz m₁ h3 tk3 k tk st tb R la rv cur n1 n2 extra rest dn cr⟩
namespace T1
theorem ne : Nonempty ((Heap) × (Str → Option Value) × (Heap) × (Nat) × (Nat) × (Tok) × (Tok) × (Addr) × (Addr) × (List Value) × (List Value) × (Nat) × (Nat) × (List (Addr × Obj)) × (List (List SPiece)) × (List SPiece)) := ⟨(Classical.ofNonempty, Classical.ofNonempty, Classical.ofNonempty, Classical.ofNonempty, Classical.ofNonempty, Classical.ofNonempty, Classical.ofNonempty, Classical.ofNonempty, Classical.ofNonempty, Classical.ofNonempty, Classical.ofNonempty, Classical.ofNonempty, Classical.ofNonempty, Classical.ofNonempty, Classical.ofNonempty, Classical.ofNonempty)⟩
noncomputable def κ : (Heap) × (Str → Option Value) × (Heap) × (Nat) × (Nat) × (Tok) × (Tok) × (Addr) × (Addr) × (List Value) × (List Value) × (Nat) × (Nat) × (List (Addr × Obj)) × (List (List SPiece)) × (List SPiece) := pick ne fun c => ¬ ∀ tx st rest, pre.1 tx (c.1) (c.2.1) (c.2.2.1) (c.2.2.2.1) (c.2.2.2.2.1) (c.2.2.2.2.2.1) st (c.2.2.2.2.2.2.1) (c.2.2.2.2.2.2.2.1) (c.2.2.2.2.2.2.2.2.1) (c.2.2.2.2.2.2.2.2.2.1) (c.2.2.2.2.2.2.2.2.2.2.1) (c.2.2.2.2.2.2.2.2.2.2.2.1) (c.2.2.2.2.2.2.2.2.2.2.2.2.1) (c.2.2.2.2.2.2.2.2.2.2.2.2.2.1) rest (c.2.2.2.2.2.2.2.2.2.2.2.2.2.2.1) (c.2.2.2.2.2.2.2.2.2.2.2.2.2.2.2)
noncomputable def hz : Heap := κ.1
noncomputable def m₁ : Str → Option Value := κ.2.1
noncomputable def h3 : Heap := κ.2.2.1
noncomputable def tk3 : Nat := κ.2.2.2.1
noncomputable def k : Nat := κ.2.2.2.2.1
noncomputable def tk : Tok := κ.2.2.2.2.2.1
noncomputable def tb : Tok := κ.2.2.2.2.2.2.1
noncomputable def R : Addr := κ.2.2.2.2.2.2.2.1
noncomputable def la : Addr := κ.2.2.2.2.2.2.2.2.1
noncomputable def rv : List Value := κ.2.2.2.2.2.2.2.2.2.1
noncomputable def cur : List Value := κ.2.2.2.2.2.2.2.2.2.2.1
noncomputable def n1 : Nat := κ.2.2.2.2.2.2.2.2.2.2.2.1
noncomputable def n2 : Nat := κ.2.2.2.2.2.2.2.2.2.2.2.2.1
noncomputable def extra : List (Addr × Obj) := κ.2.2.2.2.2.2.2.2.2.2.2.2.2.1
noncomputable def dn : List (List SPiece) := κ.2.2.2.2.2.2.2.2.2.2.2.2.2.2.1
noncomputable def cr : List SPiece := κ.2.2.2.2.2.2.2.2.2.2.2.2.2.2.2
theorem turn : ∀ tx st rest, pre.1 tx hz m₁ h3 tk3 k tk st tb R la rv cur n1 n2 extra rest dn cr := by
  intro tx st rest
  w_top off
  refine fillG ?_
  k_fill
  intro _ _
  intro hS hT htx hdp hun hQ X T hnt hnt' F3 mk mr mx offR offl hne hdrop hwf hrv hcur hruns hcl hrl mb N3
  (try k_fold)
  have hne' : @Ne Nat R la := Ne.symm hne
  have hgl : (rv ++ [Value.ref la]).getLast? = some (Value.ref la) := List.getLast?_concat
  have hdl : tx.length = k + (flat rest).length + 3 := by
    have := congrArg List.length hdrop
    rw [List.length_drop, List.length_append] at this
    have hk : k ≤ tx.length := Nat.le_of_lt (Nat.lt_of_sub_pos (by rw [this]; exact Nat.succ_pos _))
    exact ((Nat.add_sub_cancel' hk).symm.trans (congrArg (k + ·) this)).trans (Nat.add_assoc _ _ _).symm
  have hkle : k ≤ tx.length := by rw [hdl, Nat.add_assoc]; exact Nat.le_add_right _ _
  cases rest with
  | nil =>
    have hd3 : tx.drop k = [41, 92, 90] := hdrop
    have hk3 : tx.length = k + 3 := hdl
    have hkl : ¬ (k : Int) < ((txt tx).length : Int) - 3 := by rw [txt_length, hk3]; exact Int.not_lt.mpr (Int.le_of_eq (Int.add_sub_cancel (k : Int) 3))
    have hbl := stStr_len st
    have g4 : (Txt.slice (txt tx) none (some 4) == Str.ofString "(?s:") = true := by
      rw [show Str.ofString "(?s:" = txt [40, 63, 115, 58] by decide, show (4 : Int) = ((4 : Nat) : Int) from rfl, slice_to, htx, txt_beq, decide_eq_true_eq]; rfl
    have g3 : (Txt.slice (txt tx) (some (-3)) none == Str.ofString ")\\Z") = true := by
      rw [show Str.ofString ")\\Z" = txt [41, 92, 90] by decide, show (-3 : Int) = -((3 : Nat) : Int) from rfl, slice_last tx 3 (by decide) (by rw [hk3]; exact Nat.le_add_left _ _), txt_beq, decide_eq_true_eq, show tx.length - 3 = k from by rw [hk3]; rfl]; exact hd3
    have gb : ([Str.ofString "", Str.ofString "."].any fun x => x == stStr st) = true := by rcases hwf with rfl | rfl <;> decide
    k_steps
    repeat' ((first | ((with_reducible refine Stop.subU ?_); (with_reducible rename News _ _ _ _ => N'); (try simp only [List.cons_append, List.append_assoc] at N'); refine item_last (by is_list) (by assumption) ?_ (by with_unfolding_all rfl))); (try k_steps))
    all_goals (
      refine hQ _ _ _ _ (kp_of (by assumption)) (fsh_of (by assumption)) ⟨R, _, n1, rfl, (by repeat (first | exact List.Mem.head _ | refine List.Mem.tail _ ?_)), ?_⟩
      rw [← hruns]
      exact All2.snoc (hrv.mono fun _ _ q => q.mono fun p hp => (by repeat (first | exact hp | refine List.Mem.tail _ ?_))) ⟨la, cur, n2, rfl, (by repeat (first | exact List.Mem.head _ | refine List.Mem.tail _ ?_)), hcur.mono fun _ _ q => q.mono fun p hp => (by repeat (first | exact hp | refine List.Mem.tail _ ?_))⟩)
  | cons tk r =>
  have hdrop' : tx.drop k = tk.text ++ (flat r ++ [41, 92, 90]) := by rw [hdrop]; simp [flat]
  have hkl : (k : Int) < ((txt tx).length : Int) - 3 := by
    have : (flat (tk :: r)).length = tk.text.length + (flat r).length := by simp [flat]
    have := tk_pos (t := tk)
    (first | lia (splits := 0) | omega)
  clear hdrop
  by_cases hm : midTk tk = true
  · obtain ⟨f2, g6, g2, go, gp⟩ := mid_facts hm hwf hdrop'
    have hbl := stStr_len st
    k_steps
    repeat' ((first | ((with_reducible refine Stop.subU ?_); (with_reducible rename News _ _ _ _ => N'); (try simp only [List.cons_append, List.append_assoc] at N'); refine item_last (by is_list) (by assumption) ?_ (by with_unfolding_all rfl))); (try k_steps))
    unfold Stop
    (with_reducible rename Fr _ _ _ _ => Fa)
    (with_reducible rename News _ _ _ _ => Na)
    refine if_cut false Fa Na ?_ fun h5 tk5 F5 N5 => ?_
    · k_steps
      repeat' ((first | ((with_reducible refine Stop.subU ?_); (with_reducible rename News _ _ _ _ => N'); (try simp only [List.cons_append, List.append_assoc] at N'); refine item_last (by is_list) (by assumption) ?_ (by with_unfolding_all rfl))); (try k_steps))
      all_goals (refine TEnd.mk ?_ (by assumption) (by assumption) (fun p hp => by first | exact hp | exact List.Mem.tail _ hp); first | rfl | assumption)
    clear Fa Na
    rw [if_neg (by decide)]
    k_steps
    repeat' ((first | ((with_reducible refine Stop.subU ?_); (with_reducible rename News _ _ _ _ => N'); (try simp only [List.cons_append, List.append_assoc] at N'); refine item_last (by is_list) (by assumption) ?_ (by with_unfolding_all rfl))); (try k_steps))
    unfold Stop
    (with_reducible rename Fr _ _ _ _ => Fa)
    (with_reducible rename News _ _ _ _ => Na)
    refine if_cut false Fa Na ?_ fun h5 tk5 F5 N5 => ?_
    · k_steps
      repeat' ((first | ((with_reducible refine Stop.subU ?_); (with_reducible rename News _ _ _ _ => N'); (try simp only [List.cons_append, List.append_assoc] at N'); refine item_last (by is_list) (by assumption) ?_ (by with_unfolding_all rfl))); (try k_steps))
      all_goals (refine TEnd.mk ?_ (by assumption) (by assumption) (fun p hp => by first | exact hp | exact List.Mem.tail _ hp); first | rfl | assumption)
    clear Fa Na
    rw [if_neg (by decide)]
    k_steps
    repeat' ((first | ((with_reducible refine Stop.subU ?_); (with_reducible rename News _ _ _ _ => N'); (try simp only [List.cons_append, List.append_assoc] at N'); refine item_last (by is_list) (by assumption) ?_ (by with_unfolding_all rfl))); (try k_steps))
    unfold Stop
    (with_reducible rename Fr _ _ _ _ => Fa)
    (with_reducible rename News _ _ _ _ => Na)
    refine if_cut false Fa Na ?_ fun h5 tk5 F5 N5 => ?_
    · k_steps
      repeat' ((first | ((with_reducible refine Stop.subU ?_); (with_reducible rename News _ _ _ _ => N'); (try simp only [List.cons_append, List.append_assoc] at N'); refine item_last (by is_list) (by assumption) ?_ (by with_unfolding_all rfl))); (try k_steps))
      all_goals (refine TEnd.mk ?_ (by assumption) (by assumption) (fun p hp => by first | exact hp | exact List.Mem.tail _ hp); first | rfl | assumption)
    clear Fa Na
    rw [if_neg (by decide)]
    cases tk with
    | «open» => cases hm
    | last => cases hm
    | close => cases hm
    | dot =>
      obtain  ⟨hst, hwf'⟩ := hwf
      have hd : tx.drop k = 46 :: (flat r ++ [41, 92, 90]) := hdrop'
      have gb := HI (x := 46) s91 hd
      rw [decide_eq_false (by decide)] at gb
      have gq := HI (x := 46) s46 hd
      rw [decide_eq_true rfl] at gq
      k_steps
      repeat' ((first | ((with_reducible refine Stop.subU ?_); (with_reducible rename News _ _ _ _ => N'); (try simp only [List.cons_append, List.append_assoc] at N'); refine item_last (by is_list) (by assumption) ?_ (by with_unfolding_all rfl))); (try k_steps))
      unfold Stop
      (repeat (with_reducible rename _ ∧ _ => qq; have zq1 := And.left qq; have zq2 := And.right qq; clear qq))
      (with_reducible rename Fr _ _ _ _ => Fz)
      (with_reducible rename News _ _ _ _ => Nz)
      (try simp only [List.cons_append, List.append_assoc] at Nz)
      refine append_pre2 (pre := [_, _, _, _]) Fz Nz (off_cons (by (first | lia (splits := 0) | omega)) (off_cons (by (first | lia (splits := 0) | omega)) (off_cons (by (first | lia (splits := 0) | omega)) (off_cons hne' off_nil))))  offl (by (first | lia (splits := 0) | omega)) ?_
      clear Fz Nz
      intro h7 F7 N7 off7
      k_steps
      repeat' ((first | ((with_reducible refine Stop.subU ?_); (with_reducible rename News _ _ _ _ => N'); (try simp only [List.cons_append, List.append_assoc] at N'); refine item_last (by is_list) (by assumption) ?_ (by with_unfolding_all rfl))); (try k_steps))
      unfold WPost
      refine WEnd.mk (n' := tx.length + 1 - (k + 1)) F7 (nperm4 N7) (decK hkle (by decide)) ⟨k + 1, _, st, _, _, R, la, rv, _, n1, _, _, r, dn, cr ++ [_], (by repeat (first | with_reducible assumption | with_reducible exact if_pos rfl | refine (if_neg (by decide)).trans ?_ | rfl)), (by repeat (first | with_reducible assumption | with_reducible exact if_pos rfl | refine (if_neg (by decide)).trans ?_ | rfl)), (by repeat (first | with_reducible assumption | with_reducible exact if_pos rfl | refine (if_neg (by decide)).trans ?_ | rfl)), (by repeat (first | with_reducible assumption | with_reducible exact if_pos rfl | refine (if_neg (by decide)).trans ?_ | rfl)), rfl, rfl, (off_cons (by (first | lia (splits := 0) | omega)) (off_cons (by (first | lia (splits := 0) | omega)) (off_cons (by (first | lia (splits := 0) | omega)) offR))), (off_cons (by (first | lia (splits := 0) | omega)) (off_cons (by (first | lia (splits := 0) | omega)) (off_cons (by (first | lia (splits := 0) | omega)) offl))), hne, rfl, drop_text hdrop', hwf',
        hrv.mono fun _ _ q => q.mono fun p hp => .tail _ (.tail _ (.tail _ hp)), All2.snoc (hcur.mono fun _ _ q => q.mono fun p hp => .tail _ (.tail _ (.tail _ hp))) ⟨_, _, [], _, 0, rfl, .tail _ (.head _), .tail _ (.tail _ (.head _)), All2.nil⟩, hruns, by rw [List.length_append]; show cur.length + 1 ≤ _; (first | lia (splits := 0) | omega), by (first | lia (splits := 0) | omega)⟩
    | set neg a b c =>
      obtain  ⟨hst, ⟨ha, hb, hc⟩, hwf'⟩ := hwf
      have hd : tx.drop k = 91 :: (((if neg then [94] else []) ++ [a, 45, b, c, 93]) ++ flat r ++ [41, 92, 90]) := (by rw [hdrop']; simp [Tk.text])
      have gb := HI (x := 91) s91 hd
      rw [decide_eq_true rfl] at gb
      have gq := HI (x := 91) s46 hd
      rw [decide_eq_false (by decide)] at gq
      k_steps
      repeat' ((first | ((with_reducible refine Stop.subU ?_); (with_reducible rename News _ _ _ _ => N'); (try simp only [List.cons_append, List.append_assoc] at N'); refine item_last (by is_list) (by assumption) ?_ (by with_unfolding_all rfl))); (try k_steps))
      unfold Stop
      refine use_spec (S_setZ _ _ _ _ _ _ stK (by assumption) (by (first | lia (splits := 0) | omega))) rfl (by first | exact bud (by assumption) (by rfl) | exact bud0 (by assumption) (by rfl) | (dsimp only [AA]; lia)) (by first | exact bud (by assumption) (by rfl) | exact bud0 (by assumption) (by rfl) | (dsimp only [AA]; lia)) (by assumption) (by assumption) ?_
      intro _ _ _ _ _ N' _ R'
      obtain ⟨_, _, _, _, _, _, _, _, _, _, e', sm, _, _, _, _⟩ := R'
      cases e'
      have it' := tup_in N' (List.mem_append_right _ sm)
      (try simp only [List.cons_append, List.append_assoc] at N')
      k_steps
      repeat' ((first | ((with_reducible refine Stop.subU ?_); (with_reducible rename News _ _ _ _ => N'); (try simp only [List.cons_append, List.append_assoc] at N'); refine item_last (by is_list) (by assumption) ?_ (by with_unfolding_all rfl))); (try k_steps))
      unfold Stop
      (repeat (with_reducible rename _ ∧ _ => qq; have zq1 := And.left qq; have zq2 := And.right qq; clear qq))
      (with_reducible rename Fr _ _ _ _ => Fz)
      (with_reducible rename News _ _ _ _ => Nz)
      (try simp only [List.cons_append, List.append_assoc] at Nz)
      rename All2 (EndIn _) _ _ => sall
      have hpos := tk_pos (t := Tk.set neg a b c)
      have ht : ((k : Int) + 1).toNat = k + 1 := rfl
      have hd1 : tx.drop (k + 1) = ((if neg then [94] else []) ++ [a, 45, b, c, 93]) ++ flat r ++ [41, 92, 90] := by rw [← List.drop_drop, hd]; rfl
      rename SetRun _ _ _ _ => srun
      rename (_, tupObj #[Value.bool _, _] _) ∈ _ => sm2
      rw [ht] at srun sm2
      have hset : (decide ((tx.drop (k + 1)).take 1 = [94])) = neg := by
        rw [hd1]; cases neg
        · exact decide_eq_false fun e => absurd ((List.cons.inj e).1 ▸ ha : Safe 94) (by unfold Safe; decide)
        · simp
      rw [hset] at sm2
      have hrun := set_run (r := flat r ++ [41, 92, 90]) ha hb hc (by
        cases neg
        · rw [if_neg (of_decide_eq_false hset), hd1]; simp
        · rw [if_pos (of_decide_eq_true hset), show k + 1 + 1 = k + 1 + ([94] : List Nat).length from rfl]; exact drop_text (by rw [hd1]; simp)) srun
      have hk5 : (if (tx.drop (k + 1)).take 1 = [94] then k + 1 + 1 else k + 1) + 4 + 1 = k + (Tk.set neg a b c).text.length := by
        cases neg
        · rw [if_neg (of_decide_eq_false hset)]; simp [Tk.text]
        · rw [if_pos (of_decide_eq_true hset)]; simp [Tk.text]
      obtain ⟨he1, he2⟩ := Prod.mk.inj hrun
      rw [he2, hk5] at Fz
      subst he1
      refine append_pre2 (pre := [_]) Fz Nz (off_cons hne' off_nil)  (off_app offl (off_of (by assumption) (by simp))) (by (first | lia (splits := 0) | omega)) ?_
      clear Fz Nz
      intro h7 F7 N7 off7
      k_steps
      repeat' ((first | ((with_reducible refine Stop.subU ?_); (with_reducible rename News _ _ _ _ => N'); (try simp only [List.cons_append, List.append_assoc] at N'); refine item_last (by is_list) (by assumption) ?_ (by with_unfolding_all rfl))); (try k_steps))
      unfold WPost
      refine WEnd.mk (n' := tx.length + 1 - (k + (Tk.set neg a b c).text.length)) F7 (nperm1 N7) (decK hkle hpos) ⟨k + (Tk.set neg a b c).text.length, _, st, _, _, R, la, rv, _, n1, _, _, r, dn, cr ++ [_], (by repeat (first | with_reducible assumption | with_reducible exact if_pos rfl | refine (if_neg (by decide)).trans ?_ | rfl)), (by repeat (first | with_reducible assumption | with_reducible exact if_pos rfl | refine (if_neg (by decide)).trans ?_ | rfl)), (by repeat (first | with_reducible assumption | with_reducible exact if_pos rfl | refine (if_neg (by decide)).trans ?_ | rfl)), (by repeat (first | with_reducible assumption | with_reducible exact if_pos rfl | refine (if_neg (by decide)).trans ?_ | rfl)), rfl, rfl, (off_app offR (off_of (by assumption) (by simp))), (off_app offl (off_of (by assumption) (by simp))), hne, rfl, drop_text hdrop', hwf',
        hrv.mono fun _ _ q => q.mono fun p hp => List.mem_append_left _ hp, All2.snoc (hcur.mono fun _ _ q => q.mono fun p hp => List.mem_append_left _ hp) ⟨_, _, _, _, _, rfl, List.mem_append_right _ sm2, List.mem_append_right _ (by assumption), sall.mono fun _ _ q => q.mono fun p hp => List.mem_append_right _ hp⟩, hruns, by rw [List.length_append]; show cur.length + 1 ≤ _; (first | lia (splits := 0) | omega), by (first | lia (splits := 0) | omega)⟩
    | sign c =>
      obtain  ⟨hst, hc, hwf'⟩ := hwf
      obtain ⟨x, er, hx0, hx⟩ := esc_head hc
      have hd : tx.drop k = x :: (er ++ (flat r ++ [41, 92, 90])) := by rw [hdrop']; show esc c ++ _ = _; rw [hx0]; rfl
      have gb := HI (x := x) s91 hd
      rw [decide_eq_false (by intro e; subst e; exact absurd hx (by unfold Safe; decide))] at gb
      have gq := HI (x := x) s46 hd
      rw [decide_eq_false (by intro e; subst e; exact absurd hx (by unfold Safe; decide))] at gq
      k_steps
      repeat' ((first | ((with_reducible refine Stop.subU ?_); (with_reducible rename News _ _ _ _ => N'); (try simp only [List.cons_append, List.append_assoc] at N'); refine item_last (by is_list) (by assumption) ?_ (by with_unfolding_all rfl))); (try k_steps))
      unfold Stop
      refine use_spec (S_sign _ _ _ _ _ _ stK (by assumption)) rfl (by first | exact bud (by assumption) (by rfl) | exact bud0 (by assumption) (by rfl) | (dsimp only [AA]; lia)) (by first | exact bud (by assumption) (by rfl) | exact bud0 (by assumption) (by rfl) | (dsimp only [AA]; lia)) (by assumption) (by assumption) ?_
      intro _ _ _ _ _ N' _ R'
      obtain ⟨_, _, _, _, e', sm⟩ := R'
      cases e'
      have it' := tup_in N' (List.mem_append_right _ sm)
      (try simp only [List.cons_append, List.append_assoc] at N')
      k_steps
      repeat' ((first | ((with_reducible refine Stop.subU ?_); (with_reducible rename News _ _ _ _ => N'); (try simp only [List.cons_append, List.append_assoc] at N'); refine item_last (by is_list) (by assumption) ?_ (by with_unfolding_all rfl))); (try k_steps))
      unfold Stop
      (repeat (with_reducible rename _ ∧ _ => qq; have zq1 := And.left qq; have zq2 := And.right qq; clear qq))
      (with_reducible rename Fr _ _ _ _ => Fz)
      (with_reducible rename News _ _ _ _ => Nz)
      (try simp only [List.cons_append, List.append_assoc] at Nz)
      have hpos : 1 ≤ (esc c).length := tk_pos (t := Tk.sign c)
      simp only [sign_esc hc (show tx.drop k = esc c ++ _ from hdrop')] at Nz Fz
      refine append_pre2 (pre := [_, _, _, _]) Fz Nz (off_cons (by (first | lia (splits := 0) | omega)) (off_cons (by (first | lia (splits := 0) | omega)) (off_cons (by (first | lia (splits := 0) | omega)) (off_cons hne' off_nil))))  (off_app offl (off_of (by assumption) (by simp))) (by (first | lia (splits := 0) | omega)) ?_
      clear Fz Nz
      intro h7 F7 N7 off7
      k_steps
      repeat' ((first | ((with_reducible refine Stop.subU ?_); (with_reducible rename News _ _ _ _ => N'); (try simp only [List.cons_append, List.append_assoc] at N'); refine item_last (by is_list) (by assumption) ?_ (by with_unfolding_all rfl))); (try k_steps))
      unfold WPost
      refine WEnd.mk (n' := tx.length + 1 - (k + (esc c).length)) F7 (nperm4 N7) (decK hkle hpos) ⟨k + (esc c).length, _, st, _, _, R, la, rv, _, n1, _, _, r, dn, cr ++ [_], (by repeat (first | with_reducible assumption | with_reducible exact if_pos rfl | refine (if_neg (by decide)).trans ?_ | rfl)), (by repeat (first | with_reducible assumption | with_reducible exact if_pos rfl | refine (if_neg (by decide)).trans ?_ | rfl)), (by repeat (first | with_reducible assumption | with_reducible exact if_pos rfl | refine (if_neg (by decide)).trans ?_ | rfl)), (by repeat (first | with_reducible assumption | with_reducible exact if_pos rfl | refine (if_neg (by decide)).trans ?_ | rfl)), rfl, rfl, (off_cons (by (first | lia (splits := 0) | omega)) (off_cons (by (first | lia (splits := 0) | omega)) (off_cons (by (first | lia (splits := 0) | omega)) (off_app offR (off_of (by assumption) (by simp)))))), (off_cons (by (first | lia (splits := 0) | omega)) (off_cons (by (first | lia (splits := 0) | omega)) (off_cons (by (first | lia (splits := 0) | omega)) (off_app offl (off_of (by assumption) (by simp)))))), hne, rfl, drop_text hdrop', hwf',
        hrv.mono fun _ _ q => q.mono fun p hp => .tail _ (.tail _ (.tail _ (List.mem_append_left _ hp))), All2.snoc (hcur.mono fun _ _ q => q.mono fun p hp => .tail _ (.tail _ (.tail _ (List.mem_append_left _ hp)))) ⟨_, _, [_], _, 0, rfl, .head _, .tail _ (.head _), All2.snoc All2.nil ⟨_, _, _, _, rfl, .tail _ (.tail _ (.head _))⟩⟩, hruns, by rw [List.length_append]; show cur.length + 1 ≤ _; (first | lia (splits := 0) | omega), by (first | lia (splits := 0) | omega)⟩
  cases tk with
  | «open» =>
    obtain  ⟨hst, hwf'⟩ := hwf
    have hd : tx.drop k = 40 :: 63 :: 62 :: 46 :: 42 :: 63 :: (flat r ++ [41, 92, 90]) := hdrop'
    have g6 := H6t hd
    have gi := HI (x := 40) s40 hd
    rw [decide_eq_true rfl] at gi
    have hbl := stStr_len st
    have fA : ([Str.ofString "", Str.ofString ")"].any fun x => x == stStr st) = true := by rcases hst with rfl | rfl <;> decide
    k_steps
    repeat' ((first | ((with_reducible refine Stop.subU ?_); (with_reducible rename News _ _ _ _ => N'); (try simp only [List.cons_append, List.append_assoc] at N'); refine item_last (by is_list) (by assumption) ?_ (by with_unfolding_all rfl))); (try k_steps))
    unfold Stop
    (with_reducible rename Fr _ _ _ _ => Fa)
    (with_reducible rename News _ _ _ _ => Na)
    refine if_cut true Fa Na ?_ fun h5 tk5 F5 N5 => ?_
    · k_steps
      repeat' ((first | ((with_reducible refine Stop.subU ?_); (with_reducible rename News _ _ _ _ => N'); (try simp only [List.cons_append, List.append_assoc] at N'); refine item_last (by is_list) (by assumption) ?_ (by with_unfolding_all rfl))); (try k_steps))
      all_goals (refine TEnd.mk ?_ (by assumption) (by assumption) (fun p hp => by first | exact hp | exact List.Mem.tail _ hp); first | rfl | assumption)
    clear Fa Na
    rw [if_pos rfl]
    k_steps
    repeat' ((first | ((with_reducible refine Stop.subU ?_); (with_reducible rename News _ _ _ _ => N'); (try simp only [List.cons_append, List.append_assoc] at N'); refine item_last (by is_list) (by assumption) ?_ (by with_unfolding_all rfl))); (try k_steps))
    unfold Stop
    (repeat (with_reducible rename _ ∧ _ => qq; have zq1 := And.left qq; have zq2 := And.right qq; clear qq))
    (with_reducible rename Fr _ _ _ _ => Fz)
    (with_reducible rename News _ _ _ _ => Nz)
    (try simp only [List.cons_append, List.append_assoc] at Nz)
    refine append_pre2 (pre := [_, _]) Fz Nz (off_cons (by (first | lia (splits := 0) | omega)) (off_cons (by (first | lia (splits := 0) | omega)) off_nil)) (off_cons hne offR) (by rw [List.length_append]; show rv.length + 1 ≤ _; (first | lia (splits := 0) | omega)) ?_
    clear Fz Nz
    intro h7 F7 N7 off7
    k_steps
    repeat' ((first | ((with_reducible refine Stop.subU ?_); (with_reducible rename News _ _ _ _ => N'); (try simp only [List.cons_append, List.append_assoc] at N'); refine item_last (by is_list) (by assumption) ?_ (by with_unfolding_all rfl))); (try k_steps))
    unfold WPost
    refine WEnd.mk (n' := tx.length + 1 - (k + 6)) F7 N7 (decK hkle (by decide)) ⟨k + 6, _, 1, _, _, R, _, _, [], _, 0, _, r, dn ++ [cr], [], (by repeat (first | with_reducible assumption | with_reducible exact if_pos rfl | refine (if_neg (by decide)).trans ?_ | rfl)), (by repeat (first | with_reducible assumption | with_reducible exact if_pos rfl | refine (if_neg (by decide)).trans ?_ | rfl)), (by repeat (first | with_reducible assumption | with_reducible exact if_pos rfl | refine (if_neg (by decide)).trans ?_ | rfl)), (by repeat (first | with_reducible assumption | with_reducible exact if_pos rfl | refine (if_neg (by decide)).trans ?_ | rfl)), (item_txt hd).trans s40.symm, rfl, fun p hp => off7 p (.tail _ hp), off_cons (by (first | lia (splits := 0) | omega)) (off_cons (by (first | lia (splits := 0) | omega)) (lt_off (by assumption))), by (first | lia (splits := 0) | omega), rfl, drop_text hdrop', hwf',
      All2.snoc (hrv.mono fun _ _ q => q.mono fun p hp => .tail _ (.tail _ hp)) ⟨la, cur, n2, rfl, .tail _ (.head _), hcur.mono fun _ _ q => q.mono fun p hp => .tail _ (.tail _ hp)⟩, All2.nil, hruns, Nat.zero_le _, by rw [List.length_append]; show rv.length + 1 ≤ _; (first | lia (splits := 0) | omega)⟩
  | last =>
    obtain  ⟨hst, hwf'⟩ := hwf
    have hd : tx.drop k = 46 :: 42 :: (flat r ++ [41, 92, 90]) := hdrop'
    have g6 := H6f hd (by decide)
    have g2 := H2t hd
    have gi := HI (x := 46) s40 hd
    rw [decide_eq_false (by decide)] at gi
    have hbl := stStr_len st
    have fA : ([Str.ofString "", Str.ofString ")"].any fun x => x == stStr st) = true := by rcases hst with rfl | rfl <;> decide
    k_steps
    repeat' ((first | ((with_reducible refine Stop.subU ?_); (with_reducible rename News _ _ _ _ => N'); (try simp only [List.cons_append, List.append_assoc] at N'); refine item_last (by is_list) (by assumption) ?_ (by with_unfolding_all rfl))); (try k_steps))
    unfold Stop
    (with_reducible rename Fr _ _ _ _ => Fa)
    (with_reducible rename News _ _ _ _ => Na)
    refine if_cut true Fa Na ?_ fun h5 tk5 F5 N5 => ?_
    · k_steps
      repeat' ((first | ((with_reducible refine Stop.subU ?_); (with_reducible rename News _ _ _ _ => N'); (try simp only [List.cons_append, List.append_assoc] at N'); refine item_last (by is_list) (by assumption) ?_ (by with_unfolding_all rfl))); (try k_steps))
      all_goals (refine TEnd.mk ?_ (by assumption) (by assumption) (fun p hp => by first | exact hp | exact List.Mem.tail _ hp); first | rfl | assumption)
    clear Fa Na
    rw [if_pos rfl]
    k_steps
    repeat' ((first | ((with_reducible refine Stop.subU ?_); (with_reducible rename News _ _ _ _ => N'); (try simp only [List.cons_append, List.append_assoc] at N'); refine item_last (by is_list) (by assumption) ?_ (by with_unfolding_all rfl))); (try k_steps))
    unfold Stop
    (repeat (with_reducible rename _ ∧ _ => qq; have zq1 := And.left qq; have zq2 := And.right qq; clear qq))
    (with_reducible rename Fr _ _ _ _ => Fz)
    (with_reducible rename News _ _ _ _ => Nz)
    (try simp only [List.cons_append, List.append_assoc] at Nz)
    refine append_pre2 (pre := [_, _]) Fz Nz (off_cons (by (first | lia (splits := 0) | omega)) (off_cons (by (first | lia (splits := 0) | omega)) off_nil)) (off_cons hne offR) (by rw [List.length_append]; show rv.length + 1 ≤ _; (first | lia (splits := 0) | omega)) ?_
    clear Fz Nz
    intro h7 F7 N7 off7
    k_steps
    repeat' ((first | ((with_reducible refine Stop.subU ?_); (with_reducible rename News _ _ _ _ => N'); (try simp only [List.cons_append, List.append_assoc] at N'); refine item_last (by is_list) (by assumption) ?_ (by with_unfolding_all rfl))); (try k_steps))
    unfold WPost
    refine WEnd.mk (n' := tx.length + 1 - (k + 2)) F7 N7 (decK hkle (by decide)) ⟨k + 2, _, 3, _, _, R, _, _, [], _, 0, _, r, dn ++ [cr], [], (by repeat (first | with_reducible assumption | with_reducible exact if_pos rfl | refine (if_neg (by decide)).trans ?_ | rfl)), (by repeat (first | with_reducible assumption | with_reducible exact if_pos rfl | refine (if_neg (by decide)).trans ?_ | rfl)), (by repeat (first | with_reducible assumption | with_reducible exact if_pos rfl | refine (if_neg (by decide)).trans ?_ | rfl)), (by repeat (first | with_reducible assumption | with_reducible exact if_pos rfl | refine (if_neg (by decide)).trans ?_ | rfl)), (item_txt hd).trans s46.symm, rfl, fun p hp => off7 p (.tail _ hp), off_cons (by (first | lia (splits := 0) | omega)) (off_cons (by (first | lia (splits := 0) | omega)) (lt_off (by assumption))), by (first | lia (splits := 0) | omega), rfl, drop_text hdrop', hwf',
      All2.snoc (hrv.mono fun _ _ q => q.mono fun p hp => .tail _ (.tail _ hp)) ⟨la, cur, n2, rfl, .tail _ (.head _), hcur.mono fun _ _ q => q.mono fun p hp => .tail _ (.tail _ hp)⟩, All2.nil, hruns, Nat.zero_le _, by rw [List.length_append]; show rv.length + 1 ≤ _; (first | lia (splits := 0) | omega)⟩
  | close =>
    obtain  ⟨hst, hwf'⟩ := hwf
    have hd : tx.drop k = 41 :: (flat r ++ [41, 92, 90]) := hdrop'
    have gi := HI (x := 41) s41 hd
    rw [decide_eq_true rfl] at gi
    have hbl := stStr_len st
    have fA : ([Str.ofString "", Str.ofString ")"].any fun x => x == stStr st) = false := by subst hst; decide
    have f1 : (stStr st == Str.ofString "(") = true := by subst hst; decide
    k_steps
    repeat' ((first | ((with_reducible refine Stop.subU ?_); (with_reducible rename News _ _ _ _ => N'); (try simp only [List.cons_append, List.append_assoc] at N'); refine item_last (by is_list) (by assumption) ?_ (by with_unfolding_all rfl))); (try k_steps))
    unfold Stop
    (with_reducible rename Fr _ _ _ _ => Fa)
    (with_reducible rename News _ _ _ _ => Na)
    refine if_cut false Fa Na ?_ fun h5 tk5 F5 N5 => ?_
    · k_steps
      repeat' ((first | ((with_reducible refine Stop.subU ?_); (with_reducible rename News _ _ _ _ => N'); (try simp only [List.cons_append, List.append_assoc] at N'); refine item_last (by is_list) (by assumption) ?_ (by with_unfolding_all rfl))); (try k_steps))
      all_goals (refine TEnd.mk ?_ (by assumption) (by assumption) (fun p hp => by first | exact hp | exact List.Mem.tail _ hp); first | rfl | assumption)
    clear Fa Na
    rw [if_neg (by decide)]
    k_steps
    repeat' ((first | ((with_reducible refine Stop.subU ?_); (with_reducible rename News _ _ _ _ => N'); (try simp only [List.cons_append, List.append_assoc] at N'); refine item_last (by is_list) (by assumption) ?_ (by with_unfolding_all rfl))); (try k_steps))
    unfold Stop
    (with_reducible rename Fr _ _ _ _ => Fa)
    (with_reducible rename News _ _ _ _ => Na)
    refine if_cut true Fa Na ?_ fun h5 tk5 F5 N5 => ?_
    · k_steps
      repeat' ((first | ((with_reducible refine Stop.subU ?_); (with_reducible rename News _ _ _ _ => N'); (try simp only [List.cons_append, List.append_assoc] at N'); refine item_last (by is_list) (by assumption) ?_ (by with_unfolding_all rfl))); (try k_steps))
      all_goals (refine TEnd.mk ?_ (by assumption) (by assumption) (fun p hp => by first | exact hp | exact List.Mem.tail _ hp); first | rfl | assumption)
    clear Fa Na
    rw [if_pos rfl]
    k_steps
    repeat' ((first | ((with_reducible refine Stop.subU ?_); (with_reducible rename News _ _ _ _ => N'); (try simp only [List.cons_append, List.append_assoc] at N'); refine item_last (by is_list) (by assumption) ?_ (by with_unfolding_all rfl))); (try k_steps))
    (repeat (with_reducible rename _ ∧ _ => qq; have zq1 := And.left qq; have zq2 := And.right qq; clear qq))
    (with_reducible rename Fr _ _ _ _ => Fz)
    (with_reducible rename News _ _ _ _ => Nz)
    (try simp only [List.cons_append, List.append_assoc] at Nz)
    unfold WPost
    refine WEnd.mk (n' := tx.length + 1 - (k + 1)) (news' := (R, W.listOf (rv ++ [Value.ref la]).toArray n1) :: (la, W.listOf (List.toArray cur) n2) :: extra) Fz (fun p hp => Nz p (.tail _ hp)) (decK hkle (by decide)) ⟨k + 1, _, 2, _, _, R, la, rv, cur, n1, n2, extra, r, dn, cr, (by repeat (first | with_reducible assumption | with_reducible exact if_pos rfl | refine (if_neg (by decide)).trans ?_ | rfl)), (by repeat (first | with_reducible assumption | with_reducible exact if_pos rfl | refine (if_neg (by decide)).trans ?_ | rfl)), (by repeat (first | with_reducible assumption | with_reducible exact if_pos rfl | refine (if_neg (by decide)).trans ?_ | rfl)), (by repeat (first | with_reducible assumption | with_reducible exact if_pos rfl | refine (if_neg (by decide)).trans ?_ | rfl)), rfl, rfl, offR, offl, hne, rfl, drop_text hdrop', hwf', hrv, hcur, hruns, by (first | lia (splits := 0) | omega), by (first | lia (splits := 0) | omega)⟩
  | dot => exact absurd rfl hm
  | set neg a b c => exact absurd rfl hm
  | sign c => exact absurd rfl hm
end T1
theorem core : P w h t toks dp un fr gd s Q E := pre.2 fun tx hz m₁ h3 tk3 k tk st tb R la rv cur n1 n2 extra rest dn cr => pickAll T1.ne (P := fun c => ∀ tx st rest, pre.1 tx (c.1) (c.2.1) (c.2.2.1) (c.2.2.2.1) (c.2.2.2.2.1) (c.2.2.2.2.2.1) st (c.2.2.2.2.2.2.1) (c.2.2.2.2.2.2.2.1) (c.2.2.2.2.2.2.2.2.1) (c.2.2.2.2.2.2.2.2.2.1) (c.2.2.2.2.2.2.2.2.2.2.1) (c.2.2.2.2.2.2.2.2.2.2.2.1) (c.2.2.2.2.2.2.2.2.2.2.2.2.1) (c.2.2.2.2.2.2.2.2.2.2.2.2.2.1) rest (c.2.2.2.2.2.2.2.2.2.2.2.2.2.2.1) (c.2.2.2.2.2.2.2.2.2.2.2.2.2.2.2)) T1.turn (hz, m₁, h3, tk3, k, tk, tb, R, la, rv, cur, n1, n2, extra, dn, cr) tx st rest
end K_S_runs
theorem S_runs (w : World) (h : Heap) (tx : List Nat) (t : Tok) (hS : St w h) (hT : tx.length ≤ 1000) (toks : List Tk) (htx : tx = [40, 63, 115, 58] ++ flat toks ++ [41, 92, 90]) (hwf : WF 0 toks) : Spec w 137 [.str (txt tx) t] 10 900 h (fun tl v => RunsIn tl v (tkRuns toks [] [])) :=
  spec_of fun dp un fr gd s Q E => pickAll K_S_runs.ne (P := fun c => K_S_runs.P (c.1) (c.2.1) (c.2.2.1) (c.2.2.2.1) (c.2.2.2.2.1) (c.2.2.2.2.2.1) (c.2.2.2.2.2.2.1) (c.2.2.2.2.2.2.2.1) (c.2.2.2.2.2.2.2.2.1) (c.2.2.2.2.2.2.2.2.2.1) (c.2.2.2.2.2.2.2.2.2.2)) K_S_runs.core (w, h, t, toks, dp, un, fr, gd, s, Q, E) tx hS hT htx hwf
end
end Mine
end
section
open PySem PySem.W PyProof.Rows PySem.Calls
set_option Elab.async false
set_option maxRecDepth 100000
set_option maxHeartbeats 4000000
namespace Mine
def tkOf (size : Nat) : It → Tk
  | .star => .close
  | .any => .dot
  | .sign c => .sign (sv size (c % size))
  | .br neg a b c => .set neg (sv size (min (a % size) (b % size))) (sv size (max (a % size) (b % size))) (sv size (c % size))
def spOf (size : Nat) : It → SPiece
  | .star => (false, [])
  | .any => (true, [])
  | .sign c => (false, [([sv size (c % size)], [sv size (c % size)])])
  | .br neg a b c => (neg, [([sv size (min (a % size) (b % size))], [sv size (max (a % size) (b % size))]), ([sv size (c % size)], [sv size (c % size)])])
def tailTk (size : Nat) : List (List It) → List Tk
  | [] => []
  | [r] => .last :: r.map (tkOf size)
  | r :: r2 :: rs => .open :: (r.map (tkOf size) ++ .close :: tailTk size (r2 :: rs))
section
variable {size : Nat}
theorem tk_text {it : It} (h : it ≠ .star) : (tkOf size it).text = pcText size it := by
  cases it with
  | star => exact absurd rfl h
  | _ => rfl
theorem flat_app {a b : List Tk} : flat (a ++ b) = flat a ++ flat b := by simp [flat]
theorem flat_run {r : List It} (h : noStar r) : flat (r.map (tkOf size)) = (r.map (pcText size)).flatten := by
  unfold flat
  rw [List.map_map]
  congr 1
  exact List.map_congr_left fun it hi => tk_text (h it hi)
theorem flat_tail : ∀ (rs : List (List It)), (∀ r ∈ rs, noStar r) → flat (tailTk size rs) = tailR (rs.map fun r => r.map (pcText size))
  | [], _ => rfl
  | [r], h => by
    show flat (Tk.last :: r.map (tkOf size)) = [46, 42] ++ (r.map (pcText size)).flatten
    rw [← flat_run (h r (.head _))]; rfl
  | r :: r2 :: rs, h => by
    show flat (Tk.open :: (r.map (tkOf size) ++ Tk.close :: tailTk size (r2 :: rs))) = [40, 63, 62, 46, 42, 63] ++ (r.map (pcText size)).flatten ++ [41] ++ tailR ((r2 :: rs).map fun r => r.map (pcText size))
    rw [← flat_run (h r (.head _)), ← flat_tail (r2 :: rs) fun x hx => h x (.tail _ hx)]
    show [40, 63, 62, 46, 42, 63] ++ flat (r.map (tkOf size) ++ Tk.close :: tailTk size (r2 :: rs)) = _
    rw [flat_app]
    show _ ++ (_ ++ ([41] ++ flat (tailTk size (r2 :: rs)))) = _
    simp only [List.append_assoc]
theorem WF_run {st : Nat} (hst : st = 0 ∨ st = 1 ∨ st = 3) (hz : size = 32 ∨ size = 128) {rest : List Tk} (h : WF st rest) : ∀ (r : List It), noStar r → WF st (r.map (tkOf size) ++ rest)
  | [], _ => h
  | it :: r, hn => by
    have ih := WF_run hst hz h r fun x hx => hn x (.tail _ hx)
    cases it with
    | star => exact absurd rfl (hn _ (.head _))
    | any => exact ⟨hst, ih⟩
    | sign c => exact ⟨hst, safe_sv hz, ih⟩
    | br neg a b c =>
      refine ⟨hst, ⟨?_, ?_, safe_sv hz⟩, ih⟩
      · rcases Nat.le_total (a % size) (b % size) with e | e
        · rw [Nat.min_eq_left e]; exact safe_sv hz
        · rw [Nat.min_eq_right e]; exact safe_sv hz
      · rcases Nat.le_total (a % size) (b % size) with e | e
        · rw [Nat.max_eq_right e]; exact safe_sv hz
        · rw [Nat.max_eq_left e]; exact safe_sv hz
theorem WF_tail (hz : size = 32 ∨ size = 128) : ∀ (rs : List (List It)) (st : Nat), (∀ r ∈ rs, noStar r) → (st = 0 ∨ (st = 2 ∧ rs ≠ [])) → WF st (tailTk size rs)
  | [], st, _, h => by
    rcases h with rfl | ⟨_, h⟩
    · exact .inl rfl
    · exact absurd rfl h
  | [r], st, hn, h => by
    refine ⟨by lia, ?_⟩
    have := WF_run (size := size) (st := 3) (by lia) hz (rest := []) (.inr rfl) r (hn r (.head _))
    rwa [List.append_nil] at this
  | r :: r2 :: rs, st, hn, h => by
    refine ⟨by lia, WF_run (by lia) hz ?_ r (hn r (.head _))⟩
    exact ⟨rfl, WF_tail hz (r2 :: rs) 2 (fun x hx => hn x (.tail _ hx)) (.inr ⟨rfl, by simp⟩)⟩
theorem tkRuns_run {rest : List Tk} {done : List (List SPiece)} : ∀ (r : List It) (cur : List SPiece), noStar r → tkRuns (r.map (tkOf size) ++ rest) done cur = tkRuns rest done (cur ++ r.map (spOf size))
  | [], cur, _ => by simp
  | it :: r, cur, hn => by
    have e : cur ++ (it :: r).map (spOf size) = (cur ++ [spOf size it]) ++ r.map (spOf size) := by simp
    rw [e, ← tkRuns_run r (cur ++ [spOf size it]) fun x hx => hn x (.tail _ hx)]
    cases it with
    | star => exact absurd rfl (hn _ (.head _))
    | _ => rfl
theorem tkRuns_tail : ∀ (rs : List (List It)) (done : List (List SPiece)) (cur : List SPiece), (∀ r ∈ rs, noStar r) → tkRuns (tailTk size rs) done cur = done ++ [cur] ++ rs.map fun r => r.map (spOf size)
  | [], done, cur, _ => by show done ++ [cur] = _; rw [List.map_nil, List.append_nil]
  | [r], done, cur, hn => by
    show tkRuns (r.map (tkOf size)) (done ++ [cur]) [] = _
    have := tkRuns_run (size := size) (rest := []) (done := done ++ [cur]) r [] (hn r (.head _))
    rw [List.append_nil] at this
    rw [this]
    rfl
  | r :: r2 :: rs, done, cur, hn => by
    show tkRuns (r.map (tkOf size) ++ Tk.close :: tailTk size (r2 :: rs)) (done ++ [cur]) [] = _
    rw [tkRuns_run r [] (hn r (.head _))]
    show tkRuns (tailTk size (r2 :: rs)) (done ++ [cur]) ([] ++ r.map (spOf size)) = _
    rw [tkRuns_tail (r2 :: rs) _ _ fun x hx => hn x (.tail _ hx)]
    show done ++ [cur] ++ [r.map (spOf size)] ++ _ = _
    rw [List.append_assoc (done ++ [cur])]
    rfl
/-- no two stars side by side -/
def noAdj : List It → Prop
  | .star :: .star :: _ => False
  | _ :: r => noAdj r
  | [] => True
end
end Mine
end
section
open PySem PySem.W PyProof.Rows PySem.Calls
set_option Elab.async false
set_option maxRecDepth 100000
set_option maxHeartbeats 4000000
namespace Mine
theorem noAdj_snoc : ∀ (l : List It) (it : It), noAdj l → (it ≠ .star ∨ l.getLast? ≠ some .star) → noAdj (l ++ [it])
  | [], it, _, _ => by cases it <;> exact trivial
  | [a], it, _, h => by
    cases a <;> cases it <;> first | exact trivial | (rcases h with h | h <;> exact absurd rfl h)
  | a :: b :: r, it, hl, h => by
    have e : (a :: b :: r).getLast? = (b :: r).getLast? := by simp [List.getLast?_cons_cons]
    rw [e] at h
    cases a with
    | star =>
      cases b with
      | star => exact absurd hl (fun x => x)
      | any => exact noAdj_snoc (.any :: r) it hl h
      | sign c => exact noAdj_snoc (.sign c :: r) it hl h
      | br n a b c => exact noAdj_snoc (.br n a b c :: r) it hl h
    | any => exact noAdj_snoc (b :: r) it hl h
    | sign c => exact noAdj_snoc (b :: r) it hl h
    | br n a' b' c => exact noAdj_snoc (b :: r) it hl h
theorem comp_noAdj (its : List It) : noAdj (comp its) := by
  have key : ∀ (r : List It), noAdj (comp r.reverse) := by
    intro r
    induction r with
    | nil => exact trivial
    | cons it r ih =>
      rw [List.reverse_cons, comp_snoc]
      by_cases h : it ≠ .star ∨ (comp r.reverse).getLast? ≠ some .star
      · rw [compStep_other h]; exact noAdj_snoc _ _ ih h
      · have h1 : it = .star := Classical.byContradiction fun x => h (.inl x)
        have h2 : (comp r.reverse).getLast? = some .star := Classical.byContradiction fun x => h (.inr x)
        rw [h1, compStep_star h2]; exact ih
  have := key its.reverse
  rwa [List.reverse_reverse] at this
theorem noAdj_tail {a : It} {r : List It} (h : noAdj (a :: r)) : noAdj r := by
  cases a with
  | star =>
    cases r with
    | nil => exact trivial
    | cons b r =>
      cases b with
      | star => exact absurd h (fun x => x)
      | _ => exact h
  | _ => exact h
section
variable {size : Nat}
/-- the parts of a row of items, run by run -/
theorem split_parts : ∀ (l : List It), noAdj l → ∃ r0 rs, splitS l = r0 :: rs ∧ l.map (partOf size) = (r0.map (pcText size)).map some ++ tailO (rs.map fun r => r.map (pcText size)) ∧ goodR (rs.map fun r => r.map (pcText size)) ∧
    ((r0.map (pcText size)).flatten ++ tailR (rs.map fun r => r.map (pcText size))).length ≤ 7 * l.length ∧ (r0 = [] → l = [] ∨ ∃ r, l = .star :: r)
  | [], _ => ⟨[], [], rfl, rfl, trivial, Nat.le_refl _, fun _ => .inl rfl⟩
  | it :: l, h => by
    obtain ⟨r0, rs, e, hp, hg, hl, h0⟩ := split_parts l (noAdj_tail h)
    by_cases hs : it = .star
    · subst hs
      refine ⟨[], r0 :: rs, by show [] :: splitS l = _; rw [e], ?_, ?_, ?_, fun _ => .inr ⟨_, rfl⟩⟩
      · show none :: l.map (partOf size) = _
        rw [hp]; rfl
      · cases rs with
        | nil => exact trivial
        | cons r1 rs =>
          refine ⟨?_, hg⟩
          intro q
          have q' : r0 = [] := List.map_eq_nil_iff.mp q
          rcases h0 q' with rfl | ⟨r, rfl⟩
          · simp [splitS] at e
          · exact h
      · cases rs with
        | nil =>
          simp only [List.map_nil, List.map_cons, tailR, List.flatten_nil, List.nil_append, List.length_append, List.length_cons, List.length_nil] at *
          lia
        | cons r1 rs =>
          simp only [List.map_nil, List.map_cons, tailR, List.flatten_nil, List.nil_append, List.length_append, List.length_cons, List.length_nil] at *
          lia
    · have e' : splitS (it :: l) = (it :: r0) :: rs := by rw [splitS_pc hs, e]
      have hpt : partOf size it = some (pcText size it) := by
        cases it with
        | star => exact absurd rfl hs
        | _ => rfl
      have hlen : (pcText size it).length ≤ 7 := by
        cases it with
        | star => exact absurd rfl hs
        | any => show [46].length ≤ 7; decide
        | sign c =>
          show (esc _).length ≤ 7
          unfold esc; split <;> simp
        | br neg a b c => cases neg <;> simp [pcText]
      refine ⟨it :: r0, rs, e', ?_, hg, ?_, fun q => by cases q⟩
      · rw [List.map_cons, hp, hpt]; rfl
      · simp only [List.map_cons, List.flatten_cons, List.append_assoc, List.length_append, List.length_cons] at *
        lia
/-- the values of the pieces -/
theorem end_conv {h₀ h : Heap} {L : Addr} {tl : List (Addr × Obj)} (N : News h₀ L h tl) {v : Value} {a b : Nat} (x : EndIn tl v ([a], [b])) : EndAt h v (a, b) := by
  obtain ⟨p, t, t', n, e, hm⟩ := x
  exact ⟨p, t, t', e, tup_in N hm⟩
theorem piece_conv {h₀ h : Heap} {L : Addr} {tl : List (Addr × Obj)} (N : News h₀ L h tl) {v : Value} {it : It} (x : PieceIn tl v (spOf size it)) : PieceAt h v (pieceOf size it) := by
  obtain ⟨pc, le, vs, n1, n2, e, h1, h2, hall⟩ := x
  have h3 : (spOf size it).1 = (pieceOf size it).1 := by cases it <;> rfl
  have hlen : (pieceOf size it).2.length ≤ 2 := by cases it <;> simp [pieceOf]
  have hall' : All2 (EndAt h) vs (pieceOf size it).2 := by
    cases it with
    | star => exact ⟨hall.1, fun i v e hv he => by simp [pieceOf] at he⟩
    | any => exact ⟨hall.1, fun i v e hv he => by simp [pieceOf] at he⟩
    | sign c =>
      refine ⟨hall.1, fun i v e hv he => ?_⟩
      rcases i with _ | i
      · cases he
        exact end_conv N (hall.2 0 _ _ hv rfl)
      · simp [pieceOf] at he
    | br neg a b c =>
      refine ⟨hall.1, fun i v e hv he => ?_⟩
      rcases i with _ | _ | i
      · cases he
        exact end_conv N (hall.2 0 _ _ hv rfl)
      · cases he
        exact end_conv N (hall.2 1 _ _ hv rfl)
      · simp [pieceOf] at he
  refine ⟨pc, le, vs, e, ?_, ?_, hall', ?_⟩
  · rw [← h3]; exact tup_in N h1
  · exact News.isList (fun q hq => N q (by rw [List.mem_singleton.mp hq]; exact h2) : News h₀ L h [(le, W.listOf (List.toArray vs) n2)]) (.head _)
  · have := hall'.1; lia
theorem run_conv {h₀ h : Heap} {L : Addr} {tl : List (Addr × Obj)} (N : News h₀ L h tl) {v : Value} {r : List It} (hr : r.length ≤ 100) (x : RunIn tl v (r.map (spOf size))) : RunAt h v (r.map (pieceOf size)) := by
  obtain ⟨l, vs, n, e, hm, hall⟩ := x
  refine ⟨l, vs, e, News.isList (fun q hq => N q (by rw [List.mem_singleton.mp hq]; exact hm) : News h₀ L h [(l, W.listOf (List.toArray vs) n)]) (.head _), ⟨by have := hall.1; simpa using this, fun i v p hv hp => ?_⟩, ?_⟩
  · rw [List.getElem?_map] at hp
    cases hi : r[i]? with
    | none => rw [hi] at hp; cases hp
    | some it =>
      rw [hi] at hp; cases hp
      exact piece_conv N (hall.2 i _ _ hv (by rw [List.getElem?_map, hi]; rfl))
  · have := hall.1
    rw [List.length_map] at this
    lia
end
end Mine
end
section
open PySem PySem.W PyProof.Rows PySem.Calls
set_option Elab.async false
set_option maxRecDepth 100000
set_option maxHeartbeats 4000000
namespace Mine
theorem comp_length (its : List It) : (comp its).length ≤ its.length := by
  have h : ∀ (r : List It), (comp r.reverse).length ≤ r.length := by
    intro r
    induction r with
    | nil => exact Nat.le_refl _
    | cons it r ih =>
      rw [List.reverse_cons, comp_snoc]
      have : (compStep (comp r.reverse) it).length ≤ (comp r.reverse).length + 1 := by
        rcases compStep_or (comp r.reverse) it with e | e <;> rw [e]
        · exact Nat.le_succ _
        · rw [List.length_append]; exact Nat.le_refl _
      simp only [List.length_cons]; lia
  have := h its.reverse
  rwa [List.reverse_reverse, List.length_reverse] at this
theorem split_len : ∀ (l : List It), (splitS l).length ≤ l.length + 1 ∧ ∀ r ∈ splitS l, r.length ≤ l.length
  | [] => by simp [splitS]
  | it :: l => by
    obtain ⟨h1, h2⟩ := split_len l
    by_cases hs : it = .star
    · subst hs
      refine ⟨by show ([] :: splitS l).length ≤ _; simp only [List.length_cons]; lia, fun r hr => ?_⟩
      rcases List.mem_cons.mp hr with rfl | hr
      · exact Nat.zero_le _
      · exact Nat.le_succ_of_le (h2 r hr)
    · rw [splitS_pc hs]
      cases e : splitS l with
      | nil => exact absurd e (splitS_ne l)
      | cons h t =>
        rw [e] at h1 h2
        refine ⟨by simp only [List.length_cons] at h1 ⊢; lia, fun r hr => ?_⟩
        rcases List.mem_cons.mp hr with rfl | hr
        · have := h2 h (.head _)
          simp only [List.length_cons]; lia
        · have := h2 r (.tail _ hr)
          simp only [List.length_cons]; lia
/-- the text of the expression, its tokens and its runs -/
theorem bridge {size : Nat} (its : List It) (hz : size = 32 ∨ size = 128) (hlen : its.length ≤ 10) :
    ∃ (r0 : List (List Nat)) (rs : List (List (List Nat))) (toks : List Tk) (run0 : List It) (runs : List (List It)), (comp its).map (partOf size) = r0.map some ++ tailO rs ∧ goodR rs ∧ (r0.flatten ++ tailR rs).length ≤ 500 ∧ r0.flatten ++ tailR rs = flat toks ∧ WF 0 toks ∧
      tkRuns toks [] [] = (run0 :: runs).map (fun r => r.map (spOf size)) ∧ splitS (comp its) = run0 :: runs ∧ (∀ r ∈ run0 :: runs, r.length ≤ 10) ∧ runs.length ≤ 10 := by
  obtain ⟨r0, rs, e, hp, hg, hl, _⟩ := split_parts (size := size) (comp its) (comp_noAdj its)
  have hc := comp_length its
  obtain ⟨hl1, hl2⟩ := split_len (comp its)
  have hns : ∀ r ∈ r0 :: rs, noStar r := e ▸ (joinS_split (comp its)).2
  rw [e] at hl1 hl2
  refine ⟨r0.map (pcText size), rs.map fun r => r.map (pcText size), r0.map (tkOf size) ++ tailTk size rs, r0, rs, hp, hg, by lia, ?_, ?_, ?_, e, fun r hr => by have := hl2 r hr; lia, by simp only [List.length_cons] at hl1; lia⟩
  · rw [flat_app, flat_run (hns _ (.head _)), flat_tail rs fun r hr => hns r (.tail _ hr)]
  · exact WF_run (.inl rfl) hz (WF_tail hz rs 0 (fun r hr => hns r (.tail _ hr)) (.inl rfl)) r0 (hns _ (.head _))
  · rw [tkRuns_run r0 [] (hns _ (.head _)), tkRuns_tail rs _ _ fun r hr => hns r (.tail _ hr)]
    rfl
theorem law_same {size : Nat} (its : List It) (codes : List Nat) (hz : size = 32 ∨ size = 128) {run0 : List It} {runs : List (List It)} (hs : splitS (comp its) = run0 :: runs) {b : Bool} (hb : b = true ↔ dueSet (codes.map (· % size)) size its (codes.map (· % size)).length) :
    takesB ((run0 :: runs).map fun r => r.map (pieceOf size)) (codes.map (sent size)) = b := by
  have e : codes.map (sent size) = (codes.map (· % size)).map (sv size) := by
    rw [List.map_map]
    refine List.map_congr_left fun c _ => ?_
    show sent size c = sv size (c % size)
    unfold sent sv
    rcases hz with rfl | rfl
    · rfl
    · simp; lia
  have := plain_law (name := codes.map (· % size)) (size := size) its
  rw [← e, hs, ← hb] at this
  exact Bool.eq_iff_iff.mpr this
theorem fmod_lt {x : Int} {n : Nat} (hn : 0 < n) : (x.fmod (n : Int)).toNat < n := by
  have h1 := Int.fmod_lt_of_pos x (Int.ofNat_lt.mpr hn : (0 : Int) < n)
  have h2 := Int.fmod_nonneg_of_pos x (Int.ofNat_lt.mpr hn : (0 : Int) < n)
  exact Int.ofNat_lt.mp (by rw [Int.toNat_of_nonneg h2]; exact h1)
theorem itOf_ok (x : Int) : (itOf x).ok := by
  unfold itOf
  split
  · split <;> exact trivial
  · split
    · exact fmod_lt (n := 256) (by decide)
    · exact ⟨fmod_lt (n := 256) (by decide), fmod_lt (n := 256) (by decide), fmod_lt (n := 256) (by decide)⟩
theorem codesOf_ok (x : Int) : (codesOf x).length ≤ 2 ∧ ∀ c ∈ codesOf x, c < 256 := by
  unfold codesOf
  split
  · refine ⟨?_, fun c hc => ?_⟩
    · rw [List.length_replicate]
      exact Nat.le_of_lt_succ (fmod_lt (n := 3) (by decide))
    · rw [List.eq_of_mem_replicate hc]; exact fmod_lt (n := 256) (by decide)
  · split
    · refine ⟨by simp, fun c hc => ?_⟩
      rw [List.mem_singleton.mp hc]; exact fmod_lt (n := 256) (by decide)
    · exact ⟨by simp, fun c hc => by simp at hc⟩
theorem codes_ok (l : List Int) : (l.flatMap codesOf).length ≤ 2 * l.length ∧ ∀ c ∈ l.flatMap codesOf, c < 256 := by
  induction l with
  | nil => simp
  | cons x l ih =>
    rw [List.flatMap_cons]
    have h := codesOf_ok x
    refine ⟨by rw [List.length_append, List.length_cons, Nat.mul_succ, Nat.add_comm]; exact Nat.add_le_add ih.1 h.1, fun c hc => ?_⟩
    rcases List.mem_append.mp hc with hc | hc
    · exact h.2 c hc
    · exact ih.2 c hc
theorem codes_snoc {l : List Int} {i : Nat} {x : Int} (h : l[i]? = some x) : (l.take (i + 1)).flatMap codesOf = (l.take i).flatMap codesOf ++ codesOf x := by
  rw [take_snoc h, List.flatMap_append]; simp
theorem ints_app {vs ws : List Value} {a b : List Int} (h : IntsAre vs a) (k : IntsAre ws b) : IntsAre (vs ++ ws) (a ++ b) := by
  induction h with
  | nil => exact k
  | cons n t _ ih => exact .cons n t ih
/-- the code that a table names may stand in the ledger -/
theorem TabV.ledger {P L : Addr} {ln col : Nat} {qual : Str} {g h : Heap} {m : Str → Option Value} {o : Obj} (x : TabV P ln col qual h o) (F : Fr g L h m) :
    ∃ ps xs, o = tabObj ps ∧ TabOk g L xs ln col qual o ∧ News g L h xs ∧ (∀ q ∈ xs, q.1 ≠ P) ∧ (∀ q ∈ xs, ∃ vs t, q.2.data = .fields vs ∧ vs[1]? = some (.str qual t)) := by
  rcases x with x | ⟨c', e1, hne, c₂, oc, vs, t, e2, hoc, hd, hv⟩
  · exact ⟨_, [], x, .inl x, News.nil, fun _ h => (by cases h), fun _ h => (by cases h)⟩
  cases e2
  have hcL : @Ne Nat c' L := fun q => by
    obtain ⟨oL, es, ep, hoL, hdL, hrL⟩ := F.ns
    rw [q] at hoc
    rw [hoL] at hoc
    cases hoc
    rw [hdL] at hd
    cases hd
  cases hg : g.get? c' with
  | none =>
    refine ⟨_, [(c', oc)], e1, .inr ⟨c', e1, fun h2 m2 F2 N2 => ⟨c', oc, vs, t, rfl, (N2 _ (.head _)).1, hd, hv⟩⟩, fun q hq => ?_, fun q hq => ?_, fun q hq => ?_⟩
    · rw [List.mem_singleton.mp hq]; exact ⟨hoc, hcL, hg⟩
    · rw [List.mem_singleton.mp hq]; exact hne
    · rw [List.mem_singleton.mp hq]; exact ⟨_, _, hd, hv⟩
  | some y =>
    have hy := F.keep _ _ hg
    rw [hoc] at hy
    cases hy
    exact ⟨_, [], e1, .inr ⟨c', e1, fun h2 m2 F2 _ => ⟨c', oc, vs, t, rfl, F2.keep _ _ hg, hd, hv⟩⟩, News.nil, fun _ h => (by cases h), fun _ h => (by cases h)⟩
end Mine
end
section
open PySem PySem.W PyProof.Rows PySem.Calls
open PyProof.Rows.LCg (NsObj ns_obj lst lst_snoc SrcAt)
set_option Elab.async false
set_option maxRecDepth 100000
set_option maxHeartbeats 4000000
namespace Mine
section
variable {prog : Program} {w : World} {A : Around} {E : Value → Shared → Prop} {R : Result → Shared → Prop} {s : Shared} {env : Env} {h₀ : Heap} {L : Addr} {m : Str → Option Value}
theorem turn_outer (elt t1 i1 t2 i2 : Expr) (scope : Scope) (pos : Pos) (it acc : Value) (env : Env) :
    compTurn (.ListComp elt [⟨t1, i1, [], 0⟩, ⟨t2, i2, [], 0⟩] scope pos) 0 it acc env = (standAt i1.pos >>= fun _ => pyNext it >>= fun r => match r with
      | none => pure (.done .next)
      | some v => letOwnedTupleGo t1 it v >>= fun _ => assign t1 env v >>= fun _ =>
        eval i2 env >>= fun x => standAt i2.pos >>= fun _ => foldedSetIterable i2 env x >>= fun x => holding [x] (pyIter x) >>= fun z => runOwn (.compStart (.ListComp elt [⟨t1, i1, [], 0⟩, ⟨t2, i2, [], 0⟩] scope pos) 1 z acc env) env >>= fun _ =>
          again (.compLoop (.ListComp elt [⟨t1, i1, [], 0⟩, ⟨t2, i2, [], 0⟩] scope pos) 0 it acc env)) := by rfl
theorem turn_inner (elt t1 i1 t2 i2 : Expr) (scope : Scope) (pos : Pos) (it acc : Value) (env : Env) :
    compTurn (.ListComp elt [⟨t1, i1, [], 0⟩, ⟨t2, i2, [], 0⟩] scope pos) 1 it acc env = (standAt i2.pos >>= fun _ => pyNext it >>= fun r => match r with
      | none => pure (.done .next)
      | some v => letOwnedTupleGo t2 it v >>= fun _ => assign t2 env v >>= fun _ =>
        (eval elt env >>= fun x => call (.builtin "list.append") [acc, x] >>= fun _ => pure ()) >>= fun _ =>
          again (.compLoop (.ListComp elt [⟨t1, i1, [], 0⟩, ⟨t2, i2, [], 0⟩] scope pos) 1 it acc env)) := by rfl
abbrev LC2 (elt t1 i1 t2 i2 : Expr) (scope : Scope) (pos : Pos) : Expr := .ListComp elt [⟨t1, i1, [], 0⟩, ⟨t2, i2, [], 0⟩] scope pos
theorem start_inner {elt t1 i1 t2 i2 : Expr} {scope : Scope} {pos : Pos} {it acc : Value}
    (h0 : codeAny (model prog w) A (.compLoop (LC2 elt t1 i1 t2 i2 scope pos) 1 it acc env) R s)
    (h : wpAny (model prog w) A (pyIter it) (fun it' s' => codeAny (model prog w) A (.compLoop (LC2 elt t1 i1 t2 i2 scope pos) 1 it' acc env) R s') FF s) :
    codeAny (model prog w) A (.compStart (LC2 elt t1 i1 t2 i2 scope pos) 1 it acc env) R s := by
  refine codeAny_of_tree ?_
  show wpAny _ _ ((compStart (LC2 elt t1 i1 t2 i2 scope pos) 1 it acc env).onRaise (fun x => do noteFrame x env; standAt theWindowsPlace)) _ _ s
  refine wpAny_notedAt (wpAny_noRaise ?_)
  unfold compStart
  show wpAny _ _ (ask >>= _) _ _ s
  refine wpAny_bind (wpAny_askSetting (wpAny_ite ?_))
  split
  · first
      | exact wpAny_bind (wpAny_pure (wpAny_pure (And.intro rfl h0)))
      | exact wpAny_pure (And.intro rfl h0)
  · refine wpAny_bind (wpAny_rule ?_)
    show wpAny _ _ (standAt i2.pos >>= _) _ _ s
    exact wpAny_bind (wpAny_standAt (wpAny_bind (wpAny_mono h (fun it' s' h' => wpAny_pure (And.intro rfl h')) fun _ _ x => x)))
theorem loop_outer {elt t1 i1 t2 i2 : Expr} {scope : Scope} {pos : Pos} {it acc : Value} (I : Nat → Shared → Prop)
    (turn : ∀ n s, I n s → wpAny (model prog w) A (pyNext it) (fun r s₁ => match r with
      | none => R (.ok .next) s₁
      | some v => wpAny (model prog w) A (assign t1 env v) (fun _ s₂ => wpAny (model prog w) A (eval i2 env) (fun x s₃ => wpAny (model prog w) A (pyIter x) (fun z s₄ =>
          codeAny (model prog w) A (.compStart (LC2 elt t1 i1 t2 i2 scope pos) 1 z acc env) (fun r s' => r = .ok .next ∧ ∃ m, m < n ∧ I m s') s₄) FF s₃) FF s₂) FF s₁) FF s)
    (n : Nat) (h : I n s) (ht : ∀ v, letOwnedTupleGo t1 it v = pure ()) (hs : ∀ x, foldedSetIterable i2 env x = pure x) :
    codeAny (model prog w) A (.compLoop (LC2 elt t1 i1 t2 i2 scope pos) 0 it acc env) R s := by
  refine codeAny_loop rfl I (fun n s hI => ?_) n h
  show wpAny _ _ ((compTurn (LC2 elt t1 i1 t2 i2 scope pos) 0 it acc env).onRaise (fun x => do noteFrame x env; theTreesLotGoes x)) _ _ s
  refine wpAny_noted (wpAny_noRaise ?_)
  rw [turn_outer]
  refine wpAny_bind (wpAny_standAt (wpAny_bind (wpAny_mono (turn n s hI) (fun r s₁ h₁ => ?_) fun _ _ h' => h')))
  cases r with
  | none => exact wpAny_pure h₁
  | some v =>
    refine wpAny_bind (wpAny_of_eq (ht v) ?_)
    refine wpAny_bind (wpAny_mono h₁ (fun _ s₂ h₂ => wpAny_bind (wpAny_mono h₂ (fun x s₃ h₃ => wpAny_bind (wpAny_standAt (wpAny_bind (wpAny_of_eq (hs x) (wpAny_bind (wpAny_holding (wpAny_mono h₃ (fun z s₄ h₄ => ?_) fun _ _ h' => h'))))))) fun _ _ h' => h')) fun _ _ h' => h')
    refine wpAny_bind (wpAny_runOwn (codeAny_mono h₄ fun r s' h' => ?_))
    obtain ⟨rfl, h'⟩ := h'
    exact wpAny_pure ⟨rfl, h'⟩
theorem loop_inner {elt t1 i1 t2 i2 : Expr} {scope : Scope} {pos : Pos} {it acc : Value} (I : Nat → Shared → Prop)
    (turn : ∀ n s, I n s → wpAny (model prog w) A (pyNext it) (fun r s₁ => match r with
      | none => R (.ok .next) s₁
      | some v => wpAny (model prog w) A (assign t2 env v) (fun _ s₂ => wpAny (model prog w) A (eval elt env) (fun x s₃ =>
          wpAny (model prog w) A (call (.builtin "list.append") [acc, x]) (fun _ s' => ∃ m, m < n ∧ I m s') FF s₃) FF s₂) FF s₁) FF s)
    (n : Nat) (h : I n s) (ht : ∀ v, letOwnedTupleGo t2 it v = pure ()) :
    codeAny (model prog w) A (.compLoop (LC2 elt t1 i1 t2 i2 scope pos) 1 it acc env) R s := by
  refine codeAny_loop rfl I (fun n s hI => ?_) n h
  show wpAny _ _ ((compTurn (LC2 elt t1 i1 t2 i2 scope pos) 1 it acc env).onRaise (fun x => do noteFrame x env; theTreesLotGoes x)) _ _ s
  refine wpAny_noted (wpAny_noRaise ?_)
  rw [turn_inner]
  refine wpAny_bind (wpAny_standAt (wpAny_bind (wpAny_mono (turn n s hI) (fun r s₁ h₁ => ?_) fun _ _ h' => h')))
  cases r with
  | none => exact wpAny_pure h₁
  | some v =>
    refine wpAny_bind (wpAny_of_eq (ht v) ?_)
    exact wpAny_bind (wpAny_mono h₁ (fun _ s₂ h₂ => wpAny_bind (wpAny_bind (wpAny_mono h₂ (fun x s₃ h₃ => wpAny_bind (wpAny_mono h₃
      (fun _ s₄ h₄ => wpAny_pure (wpAny_pure ⟨rfl, h₄⟩)) fun _ _ h' => h')) fun _ _ h' => h'))) fun _ _ h' => h')
end
end Mine
end
section
open PySem PySem.W PyProof.Rows PySem.Calls
open PyProof.Rows.LCg (NsObj ns_obj lst lst_snoc SrcAt)
set_option Elab.async false
set_option maxRecDepth 100000
set_option maxHeartbeats 4000000
namespace Mine
section
variable {prog : Program} {w : World} {A : Around} {E : Value → Shared → Prop} {s : Shared} {env : Env} {h₀ : Heap} {L : Addr} {m : Str → Option Value}
/-- a list's iterator stands in the ledger -/
def itObj (o : Obj) (l : Addr) (i : Nat) : Prop := o.cls = .type "list_iterator" ∧ o.data = .fields #[.ref l, .int i 0]
theorem CS.step {h h2 : Heap} {C D I : Addr} {oC oI oI2 : Obj} {ys : List Value} {nw : List (Addr × Obj)} (cs : CS h₀ L m C oC D ys ((I, oI) :: nw) h) (hoff : ∀ p ∈ nw, p.1 ≠ I) (hs2 : Heap.SameBut I h h2) (e2 : h2.get? I = some oI2) :
    CS h₀ L m C oC D ys ((I, oI2) :: nw) h2 := by
  have zI := cs.N _ (List.mem_cons_of_mem _ (List.mem_cons_of_mem _ List.mem_cons_self))
  have cI := cs.off _ List.mem_cons_self
  refine ⟨cs.F.change hs2 zI.2.1 zI.2.2, fun p hp => ?_, fun p hp => ?_, cs.cd, cs.ns⟩
  · rcases List.mem_cons.mp hp with rfl | hp
    · have z := cs.N _ List.mem_cons_self
      exact ⟨(hs2.2 _ (Ne.symm cI.1)).trans z.1, z.2⟩
    · rcases List.mem_cons.mp hp with rfl | hp
      · have z := cs.N _ (List.mem_cons_of_mem _ List.mem_cons_self)
        exact ⟨(hs2.2 _ (Ne.symm cI.2)).trans z.1, z.2⟩
      · rcases List.mem_cons.mp hp with rfl | hp
        · exact ⟨e2, zI.2⟩
        · have z := cs.N p (List.mem_cons_of_mem _ (List.mem_cons_of_mem _ (List.mem_cons_of_mem _ hp)))
          exact ⟨(hs2.2 _ (hoff p hp)).trans z.1, z.2⟩
  · rcases List.mem_cons.mp hp with rfl | hp
    · exact cI
    · exact cs.off p (List.mem_cons_of_mem _ hp)
/-- the iterator at its end lets its list go -/
theorem CS.over {h h2 : Heap} {C D I : Addr} {oC oI : Obj} {ys : List Value} {nw : List (Addr × Obj)} (cs : CS h₀ L m C oC D ys ((I, oI) :: nw) h) (hoff : ∀ p ∈ nw, p.1 ≠ I) (he2 : ∀ b o, b ≠ I → h.get? b = some o → h2.get? b = some o) :
    CS h₀ L m C oC D ys nw h2 := by
  have zI := cs.N _ (List.mem_cons_of_mem _ (List.mem_cons_of_mem _ List.mem_cons_self))
  have cI := cs.off _ List.mem_cons_self
  refine ⟨⟨cs.F.ns.at' fun o e => he2 _ o (Ne.symm zI.2.1) e, fun b o e => he2 b o (fun q => by rw [q, zI.2.2] at e; cases e) (cs.F.keep b o e), cs.F.above⟩, fun p hp => ?_, fun p hp => cs.off p (List.mem_cons_of_mem _ hp), cs.cd, cs.ns⟩
  rcases List.mem_cons.mp hp with rfl | hp
  · have q := cs.N _ List.mem_cons_self
    exact ⟨he2 _ _ (Ne.symm cI.1) q.1, q.2⟩
  · rcases List.mem_cons.mp hp with rfl | hp
    · have q := cs.N _ (List.mem_cons_of_mem _ List.mem_cons_self)
      exact ⟨he2 _ _ (Ne.symm cI.2) q.1, q.2⟩
    · have q := cs.N p (List.mem_cons_of_mem _ (List.mem_cons_of_mem _ (List.mem_cons_of_mem _ hp)))
      exact ⟨he2 _ _ (hoff p hp) q.1, q.2⟩
/-- new objects join -/
theorem CS.join {h h2 : Heap} {C D : Addr} {oC : Obj} {ys : List Value} {nw tl : List (Addr × Obj)} (cs : CS h₀ L m C oC D ys nw h) (k : Kp h h2) (f : Fsh h h2 tl) : CS h₀ L m C oC D ys (tl ++ nw) h2 := by
  have NN := news_after cs.F cs.N k f
  have OO := off_after cs.N f
  refine ⟨fr_after cs.F k, fun p hp => NN p ?_, fun p hp => ?_, cs.cd, cs.ns⟩
  · simp only [List.mem_cons, List.mem_append] at hp ⊢
    rcases hp with hp | hp | hp | hp <;> simp [hp]
  · rcases List.mem_append.mp hp with hp | hp
    · exact ⟨OO p hp C (by first | k_mem | rfl | simp), OO p hp D (by first | k_mem | rfl | simp)⟩
    · exact cs.off p hp
theorem CS.sub {h : Heap} {C D : Addr} {oC : Obj} {ys : List Value} {nw nw' : List (Addr × Obj)} (cs : CS h₀ L m C oC D ys nw h) (k : ∀ p ∈ nw', p ∈ nw) : CS h₀ L m C oC D ys nw' h :=
  ⟨cs.F, fun p hp => cs.N p (by
    rcases List.mem_cons.mp hp with rfl | hp
    · exact .head _
    · rcases List.mem_cons.mp hp with rfl | hp
      · exact .tail _ (.head _)
      · exact .tail _ (.tail _ (k p hp))), fun p hp => cs.off p (k p hp), cs.cd, cs.ns⟩
theorem CS.append {h h8 : Heap} {C D : Addr} {oC : Obj} {ys : List Value} {y : Value} {nw : List (Addr × Obj)} (cs : CS h₀ L m C oC D ys nw h) (hs8 : Heap.SameBut D h h8) (hD8 : h8.get? D = some (lst (ys ++ [y]))) : CS h₀ L m C oC D (ys ++ [y]) nw h8 := by
  have zD := cs.N (D, lst ys) (List.mem_cons_of_mem _ List.mem_cons_self)
  have zC := cs.N _ List.mem_cons_self
  refine ⟨cs.F.change hs8 zD.2.1 zD.2.2, fun p hp => ?_, cs.off, cs.cd, cs.ns⟩
  rcases List.mem_cons.mp hp with rfl | hp
  · exact ⟨(hs8.2 _ cs.cd).trans zC.1, zC.2⟩
  · rcases List.mem_cons.mp hp with rfl | hp
    · exact ⟨hD8, zD.2⟩
    · have z := cs.N p (List.mem_cons_of_mem _ (List.mem_cons_of_mem _ hp))
      exact ⟨(hs8.2 _ (cs.off p hp).2).trans z.1, z.2⟩

/-- the inner loop of `[c for x in .. for c in ITER]` -/
theorem inner_run {x c : Str} {px pc pe : Pos} {i1 i2 : Expr} {scope : Scope} {cl : List (Str × Addr)} {pos : Pos} {s₁ : Shared} {C D l2 : Addr} {oC : Obj} {ys vs2 : List Value} {nw : List (Addr × Obj)} {R : Result → Shared → Prop}
    (hh : A.handled = none) (hkind : scope.kind = .function) (hc : scope.names.lookup c = some .local) (hcn : (c == ("__debug__" : Str)) = false)
    (hl2 : ∃ n2, (l2, W.listOf vs2.toArray n2) ∈ nw) (hsz : (ys ++ vs2).length ≤ 1000) (cs : CS h₀ L m C oC D ys nw s₁.heap)
    (k : ∀ h' tk' oC', CS h₀ L m C oC' D (ys ++ vs2) nw h' → R (.ok .next) { s₁ with heap := h', toks := tk' }) :
    wpAny (model prog w) A (pyIter (.ref l2)) (fun z s₄ => codeAny (model prog w) A (.compStart (LC2 (.Name c pe) (.Name x px) i1 (.Name c pc) i2 scope pos) 1 z (.ref D) (compEnvC scope cl C env)) R s₄) FF s₁ := by
  obtain ⟨n2, hm2⟩ := hl2
  have hl : s₁.heap.IsList l2 vs2.toArray := News.isList cs.N (.tail _ (.tail _ hm2))
  refine wpAny_pyIter_list hl ?_
  generalize hH : s₁.heap.push { cls := .type "list_iterator", data := .fields #[.ref l2, .int 0 0] } = H
  have up : Kp s₁.heap H := fun b o e => hH ▸ Heap.get?_push_of_some _ e
  have hI : H.get? s₁.heap.objs.size = some { cls := .type "list_iterator", data := .fields #[.ref l2, .int 0 0] } := hH ▸ Heap.get?_push_size _ rfl
  have hnone : s₁.heap.get? s₁.heap.objs.size = none := Heap.get?_none_of_le (Nat.le_refl _)
  have cs1 : CS h₀ L m C oC D ys ((s₁.heap.objs.size, { cls := .type "list_iterator", data := .fields #[.ref l2, .int 0 0] }) :: nw) H :=
    cs.join (tl := [(s₁.heap.objs.size, { cls := .type "list_iterator", data := .fields #[.ref l2, .int 0 0] })]) up fun p hp => by
      rw [List.mem_singleton.mp hp]; exact ⟨hI, hnone⟩
  have offI : ∀ p ∈ nw, p.1 ≠ s₁.heap.objs.size := fun p hp => Nat.ne_of_lt (Heap.lt_size (cs.N p (.tail _ (.tail _ hp))).1)
  have loop : ∀ tk, codeAny (model prog w) A (.compLoop (LC2 (.Name c pe) (.Name x px) i1 (.Name c pc) i2 scope pos) 1 (.ref s₁.heap.objs.size) (.ref D) (compEnvC scope cl C env)) R { s₁ with heap := H, toks := tk } := fun tk => by
    refine loop_inner (fun n s' => ∃ h' tk' oC' oI i, s' = { s₁ with heap := h', toks := tk' } ∧ n = vs2.length + 1 - i ∧ i ≤ vs2.length ∧ CS h₀ L m C oC' D (ys ++ vs2.take i) ((s₁.heap.objs.size, oI) :: nw) h' ∧ itObj oI l2 i) ?_ (vs2.length + 1)
      ⟨H, tk, oC, _, 0, rfl, rfl, Nat.zero_le _, by rw [List.take_zero, List.append_nil]; exact cs1, rfl, rfl⟩ (fun _ => rfl)
    intro n s' hq1
    (try k_fold)
    obtain ⟨h', tk', oC', oI, i, rfl, rfl, hi, cs', hob⟩ := hq1
    have zI := cs'.N _ (List.mem_cons_of_mem _ (List.mem_cons_of_mem _ List.mem_cons_self))
    have hl' : h'.IsList l2 vs2.toArray := News.isList cs'.N (.tail _ (.tail _ (.tail _ hm2)))
    have hit : h'.IsListIter s₁.heap.objs.size l2 i := ⟨oI, zI.1, hob.1, hob.2⟩
    by_cases hlt : i < vs2.length
    · refine wpAny_pyNext_list_item hit hl' (x := vs2[i]) (by simp [hlt]) fun h2 hit2 hs2 => ?_
      obtain ⟨oI2, e2, hc2, hd2⟩ := id hit2
      refine comp_name (s := { s₁ with heap := h2, toks := tk' }) hkind hc (cs'.step offI hs2 e2) fun h3 tk3 oC3 mC cs3 ho3 hv3 => ?_
      refine wpAny_Name (wpAny_loadName_local (env := compEnvC scope cl C env) hkind (lookup_relabel_local hc) (cs3.nsC ho3) hv3 ?_) hcn
      have zD := cs3.N (D, lst (ys ++ vs2.take i)) (List.mem_cons_of_mem _ List.mem_cons_self)
      refine append_at (hsz := by show (ys ++ vs2.take i).toArray.size ≤ sizeLine; rw [List.size_toArray]; simp only [List.length_append, List.length_take] at hsz ⊢; exact Nat.le_trans (Nat.le_trans (Nat.add_le_add_left (Nat.min_le_right _ _) _) hsz) (by decide : 1000 ≤ sizeLine)) zD.1 fun h8 hs8 hD8 => ?_
      refine ⟨vs2.length + 1 - (i + 1), Nat.sub_lt_sub_left (Nat.lt_succ_of_lt hlt) (Nat.lt_succ_self i), h8, _, oC3, oI2, i + 1, rfl, rfl, hlt, ?_, hc2, hd2⟩
      have := cs3.append hs8 (y := vs2[i]) (hD8.trans (congrArg some (lst_snoc _ _)))
      rwa [List.append_assoc, ← take_snoc (by simp [hlt])] at this
    · obtain rfl : i = vs2.length := Nat.le_antisymm hi (Nat.not_lt.mp hlt)
      refine wpAny_pyNext_list_end hh hit hl' (by first | k_mem | rfl | simp) fun h2 he2 => ?_
      have := cs'.over offI (fun b o hb e => he2 b o hb e)
      rw [List.take_length] at this
      exact k h2 tk' oC' this
  refine start_inner (loop _) ?_
  refine wpAny_pyIter_listiter (i := 0) ⟨_, hI, rfl, rfl⟩ ?_
  exact loop _

def TwoEnd (s : Shared) (J : Nat → List Value → Prop) (i : Nat) (ys : List Value) (h : Heap) (xv : Value) (s₃ : Shared) : Prop := ∃ l2 vs2 tl h' tk' n2, xv = .ref l2 ∧ s₃ = { s with heap := h', toks := tk' } ∧ Kp h h' ∧ Fsh h h' tl ∧ (l2, W.listOf (List.toArray vs2) n2) ∈ tl ∧ J (i + 1) (ys ++ vs2)
/-- `y = [c for x in ITER for c in ITER2]`, ITER a list, ITER2 a call that gives a new list -/
def K_comp_two_assign.Pκ (x : Str) (c : Str) (y : Str) (px : Pos) (pc : Pos) (pe : Pos) (py : Pos) (spos : Pos) (iter : Expr) (i2 : Expr) (scope : Scope) (cl : List (Str × Addr)) (pos : Pos) (Q : Flow → Shared → Prop) (l : Addr) (vs : List Value) (news : List (Addr × Obj)) (n0 : Nat) (J : Nat → List Value → Prop) : Prop :=
  ∀ (L : Addr) (F : Fr h₀ L s.heap m) (N : News h₀ L s.heap news) (hh : A.handled = none) (hLe : env.locals = L) (hsw : swapsWith (LC2 (.Name c pe) (.Name x px) iter (.Name c pc) i2 scope pos) (some (.Name y py)) spos.line env = pure true) (hclos : closureFor scope env = pure cl) (hcell : ∀ y ∈ scope.names, y.2 ≠ .cell) (hkind : scope.kind = .function) (hnames : ∀ y ∈ scope.names, y.2 = .local → scope.names.lookup y.1 = some .local) (hs : ∀ x, foldedSetIterable iter env x = pure x) (hs2 : ∀ (C : Addr) x, foldedSetIterable i2 (compEnvC scope cl C env) x = pure x) (hx : scope.names.lookup x = some .local) (hc : scope.names.lookup c = some .local) (hcn : (c == ("__debug__" : Str)) = false) (hy : env.kindOf y = some .local) (hp : (env.scope.kind == .class || (env.scope.kind == .module && env.locals != env.globals)) = false) (hl : (l, W.listOf vs.toArray n0) ∈ news) (hiter : ∀ Q' : Value → Shared → Prop, Q' (.ref l) s → wpAny (model prog w) A (eval iter env) Q' E s) (hJ0 : J 0 []) (hJl : ∀ i ys, J i ys → ys.length ≤ 1000) (turn : ∀ i v ys C oC D I oI h tk mC, vs[i]? = some v → J i ys → CS h₀ L m C oC D ys ((I, oI) :: news) h → NsObj oC mC → mC x = some v →
      wpAny (model prog w) A (eval i2 (compEnvC scope cl C env)) (fun xv s₃ => TwoEnd s J i ys h xv s₃) FF { s with heap := h, toks := tk }) (fin : ∀ D ys h tk, J vs.length ys → Fr h₀ L h (fun z => if z = y then some (.ref D) else m z) → News h₀ L h ((D, lst ys) :: news) → (∀ p ∈ news, p.1 ≠ D) → Q .next { s with heap := h, toks := tk }), wpAny (model prog w) A (exec (.Assign [.Name y py] (LC2 (.Name c pe) (.Name x px) iter (.Name c pc) i2 scope pos) spos) env) Q E s
end
namespace K_comp_two_assign
theorem ne : Nonempty ((Program) × (World) × (Around) × (Value → Shared → Prop) × (Shared) × (Env) × (Heap) × (Str → Option Value) × (Str) × (Str) × (Str) × (Pos) × (Pos) × (Pos) × (Pos) × (Pos) × (Expr) × (Expr) × (Scope) × (List (Str × Addr)) × (Pos) × (Flow → Shared → Prop) × (Addr) × (List Value) × (List (Addr × Obj)) × (Nat) × (Nat → List Value → Prop)) := ⟨(Classical.ofNonempty, w0, ⟨none, 0, none, none, 0⟩, Classical.ofNonempty, {}, Classical.ofNonempty, Classical.ofNonempty, Classical.ofNonempty, Classical.ofNonempty, Classical.ofNonempty, Classical.ofNonempty, Classical.ofNonempty, Classical.ofNonempty, Classical.ofNonempty, Classical.ofNonempty, Classical.ofNonempty, Classical.ofNonempty, Classical.ofNonempty, Classical.ofNonempty, Classical.ofNonempty, Classical.ofNonempty, Classical.ofNonempty, Classical.ofNonempty, Classical.ofNonempty, Classical.ofNonempty, Classical.ofNonempty, Classical.ofNonempty)⟩
noncomputable def κ : (Program) × (World) × (Around) × (Value → Shared → Prop) × (Shared) × (Env) × (Heap) × (Str → Option Value) × (Str) × (Str) × (Str) × (Pos) × (Pos) × (Pos) × (Pos) × (Pos) × (Expr) × (Expr) × (Scope) × (List (Str × Addr)) × (Pos) × (Flow → Shared → Prop) × (Addr) × (List Value) × (List (Addr × Obj)) × (Nat) × (Nat → List Value → Prop) := pick ne fun c => ¬ @Pκ (c.1) (c.2.1) (c.2.2.1) (c.2.2.2.1) (c.2.2.2.2.1) (c.2.2.2.2.2.1) (c.2.2.2.2.2.2.1) (c.2.2.2.2.2.2.2.1) (c.2.2.2.2.2.2.2.2.1) (c.2.2.2.2.2.2.2.2.2.1) (c.2.2.2.2.2.2.2.2.2.2.1) (c.2.2.2.2.2.2.2.2.2.2.2.1) (c.2.2.2.2.2.2.2.2.2.2.2.2.1) (c.2.2.2.2.2.2.2.2.2.2.2.2.2.1) (c.2.2.2.2.2.2.2.2.2.2.2.2.2.2.1) (c.2.2.2.2.2.2.2.2.2.2.2.2.2.2.2.1) (c.2.2.2.2.2.2.2.2.2.2.2.2.2.2.2.2.1) (c.2.2.2.2.2.2.2.2.2.2.2.2.2.2.2.2.2.1) (c.2.2.2.2.2.2.2.2.2.2.2.2.2.2.2.2.2.2.1) (c.2.2.2.2.2.2.2.2.2.2.2.2.2.2.2.2.2.2.2.1) (c.2.2.2.2.2.2.2.2.2.2.2.2.2.2.2.2.2.2.2.2.1) (c.2.2.2.2.2.2.2.2.2.2.2.2.2.2.2.2.2.2.2.2.2.1) (c.2.2.2.2.2.2.2.2.2.2.2.2.2.2.2.2.2.2.2.2.2.2.1) (c.2.2.2.2.2.2.2.2.2.2.2.2.2.2.2.2.2.2.2.2.2.2.2.1) (c.2.2.2.2.2.2.2.2.2.2.2.2.2.2.2.2.2.2.2.2.2.2.2.2.1) (c.2.2.2.2.2.2.2.2.2.2.2.2.2.2.2.2.2.2.2.2.2.2.2.2.2.1) (c.2.2.2.2.2.2.2.2.2.2.2.2.2.2.2.2.2.2.2.2.2.2.2.2.2.2)
noncomputable def prog : Program := κ.1
noncomputable def w : World := κ.2.1
noncomputable def A : Around := κ.2.2.1
noncomputable def E : Value → Shared → Prop := κ.2.2.2.1
noncomputable def s : Shared := κ.2.2.2.2.1
noncomputable def env : Env := κ.2.2.2.2.2.1
noncomputable def h₀ : Heap := κ.2.2.2.2.2.2.1
noncomputable def m : Str → Option Value := κ.2.2.2.2.2.2.2.1
noncomputable def x : Str := κ.2.2.2.2.2.2.2.2.1
noncomputable def c : Str := κ.2.2.2.2.2.2.2.2.2.1
noncomputable def y : Str := κ.2.2.2.2.2.2.2.2.2.2.1
noncomputable def px : Pos := κ.2.2.2.2.2.2.2.2.2.2.2.1
noncomputable def pc : Pos := κ.2.2.2.2.2.2.2.2.2.2.2.2.1
noncomputable def pe : Pos := κ.2.2.2.2.2.2.2.2.2.2.2.2.2.1
noncomputable def py : Pos := κ.2.2.2.2.2.2.2.2.2.2.2.2.2.2.1
noncomputable def spos : Pos := κ.2.2.2.2.2.2.2.2.2.2.2.2.2.2.2.1
noncomputable def iter : Expr := κ.2.2.2.2.2.2.2.2.2.2.2.2.2.2.2.2.1
noncomputable def i2 : Expr := κ.2.2.2.2.2.2.2.2.2.2.2.2.2.2.2.2.2.1
noncomputable def scope : Scope := κ.2.2.2.2.2.2.2.2.2.2.2.2.2.2.2.2.2.2.1
noncomputable def cl : List (Str × Addr) := κ.2.2.2.2.2.2.2.2.2.2.2.2.2.2.2.2.2.2.2.1
noncomputable def pos : Pos := κ.2.2.2.2.2.2.2.2.2.2.2.2.2.2.2.2.2.2.2.2.1
noncomputable def Q : Flow → Shared → Prop := κ.2.2.2.2.2.2.2.2.2.2.2.2.2.2.2.2.2.2.2.2.2.1
noncomputable def l : Addr := κ.2.2.2.2.2.2.2.2.2.2.2.2.2.2.2.2.2.2.2.2.2.2.1
noncomputable def vs : List Value := κ.2.2.2.2.2.2.2.2.2.2.2.2.2.2.2.2.2.2.2.2.2.2.2.1
noncomputable def news : List (Addr × Obj) := κ.2.2.2.2.2.2.2.2.2.2.2.2.2.2.2.2.2.2.2.2.2.2.2.2.1
noncomputable def n0 : Nat := κ.2.2.2.2.2.2.2.2.2.2.2.2.2.2.2.2.2.2.2.2.2.2.2.2.2.1
noncomputable def J : Nat → List Value → Prop := κ.2.2.2.2.2.2.2.2.2.2.2.2.2.2.2.2.2.2.2.2.2.2.2.2.2.2
theorem core : @Pκ prog w A E s env h₀ m x c y px pc pe py spos iter i2 scope cl pos Q l vs news n0 J := by
  intro L F N hh hLe hsw hclos hcell hkind hnames hs hs2 hx hc hcn hy hp hl hiter hJ0 hJl turn fin
  subst hLe
  rw [exec_Assign_Name_used _ _ _ _ hsw]
  refine wpAny_bind (wpAny_standAt (wpAny_bind ?_))
  show wpAny _ A (do let _ ← comprehension (LC2 (.Name c pe) (.Name x px) iter (.Name c pc) i2 scope pos) scope env _ (newList []) false (eval iter env) (some (assign (.Name y py) env))) _ _ s
  refine wpAny_bind (wpAny_mono (wpAny_comprehension_free (use := some (assign (.Name y py) env)) (Q := fun _ s' => Q .next s') rfl hs hclos hkind hnames (hiter _ ?_)) (fun _ s' hq => wpAny_pure (wpAny_pure hq)) fun _ _ e => e)
  have hlst : s.heap.IsList l vs.toArray := News.isList N hl
  refine wpAny_pyIter_list hlst ?_
  generalize hH1 : s.heap.push { cls := .type "list_iterator", data := .fields #[.ref l, .int 0 0] } = H1
  have up1 : Kp s.heap H1 := fun b o e => hH1 ▸ Heap.get?_push_of_some _ e
  have hI1 : H1.get? s.heap.objs.size = some { cls := .type "list_iterator", data := .fields #[.ref l, .int 0 0] } := hH1 ▸ Heap.get?_push_size _ rfl
  have hsz1 : H1.objs.size = s.heap.objs.size + 1 := by rw [← hH1, Heap.size_push]
  refine wpAny_newObj_type (wpAny_newFunctionEnv hcell (by intro y hy; simp at hy) (fun h₁ hns₁ hsb₁ => ?_) hkind)
  dsimp only at hns₁ hsb₁ ⊢
  generalize hH2 : H1.push { cls := .type "list", dict := none, data := .seq ([] : List Value).toArray } = H2 at hns₁ hsb₁ ⊢
  have hC : H2.objs.size = H1.objs.size + 1 := by rw [← hH2, Heap.size_push]
  have hCD : H2.objs.size ≠ H1.objs.size := Nat.ne_of_gt (by rw [hC]; exact Nat.lt_succ_self _)
  have lowD : ∀ b o, H1.get? b = some o → b ≠ H1.objs.size ∧ b ≠ H2.objs.size := fun b o e => by
    have := Heap.lt_size e
    exact ⟨Nat.ne_of_lt this, Nat.ne_of_lt (by rw [hC]; exact Nat.lt_succ_of_lt this)⟩
  have k1 : Kp H1 h₁ := fun b o e => hsb₁.extBut b o (lowD b o e).2 (Heap.get?_push_of_some _ (hH2 ▸ Heap.get?_push_of_some _ e))
  have fresh : ∀ a, s.heap.objs.size ≤ a → h₀.get? a = none := fun a ha => by
    cases e : h₀.get? a with
    | none => rfl
    | some o => exact absurd (Heap.lt_size (F.keep a o e)) (Nat.not_lt.mpr ha)
  have hLlt : env.locals < s.heap.objs.size := F.ns.lt
  have hD₁ : h₁.get? H1.objs.size = some (lst []) := hsb₁.extBut _ _ (Ne.symm hCD) (Heap.get?_push_of_some _ (hH2 ▸ Heap.get?_push_size _ rfl))
  obtain ⟨oC, heC, hoC⟩ := ns_obj hns₁
  have z2 : H2.objs.size = s.heap.objs.size + 2 := by rw [hC, hsz1]
  have CS₁ : CS h₀ env.locals m H2.objs.size oC H1.objs.size [] ((s.heap.objs.size, { cls := .type "list_iterator", data := .fields #[.ref l, .int 0 0] }) :: news) h₁ :=
    ⟨(F.keeps up1).keeps k1, fun p hp => by
      rcases List.mem_cons.mp hp with rfl | hp
      · exact ⟨heC, Nat.ne_of_gt (by show env.locals < H2.objs.size; rw [z2]; exact Nat.lt_add_right 2 hLlt), fresh _ (by rw [z2]; exact Nat.le_add_right _ _)⟩
      · rcases List.mem_cons.mp hp with rfl | hp
        · exact ⟨hD₁, Nat.ne_of_gt (by show env.locals < H1.objs.size; rw [hsz1]; exact Nat.lt_add_right 1 hLlt), fresh _ (by rw [hsz1]; exact Nat.le_add_right _ _)⟩
        · rcases List.mem_cons.mp hp with rfl | hp
          · exact ⟨k1 _ _ hI1, Nat.ne_of_gt hLlt, fresh _ (Nat.le_refl _)⟩
          · exact ⟨k1 _ _ (up1 _ _ (N p hp).1), (N p hp).2⟩,
     fun p hp => by
      rcases List.mem_cons.mp hp with rfl | hp
      · exact ⟨(lowD _ _ hI1).2, (lowD _ _ hI1).1⟩
      · exact ⟨(lowD _ _ (up1 _ _ (N p hp).1)).2, (lowD _ _ (up1 _ _ (N p hp).1)).1⟩, hCD, ⟨_, hoC⟩⟩
  have offI : ∀ p ∈ news, p.1 ≠ s.heap.objs.size := fun p hp => Nat.ne_of_lt (Heap.lt_size (N p hp).1)
  have last : ∀ C oC' D ys h' tk', CS h₀ env.locals m C oC' D ys news h' → J vs.length ys → compPost (model prog w) A E (some (assign (.Name y py) env)) (fun _ s' => Q .next s') (.ref D) C (.ok .next) { s with heap := h', toks := tk' } := by
    intro C oC' D ys h' tk' cs hF
    obtain ⟨mC, hm⟩ := cs.ns
    show wpAny _ A (assign (.Name y py) env (.ref D)) _ _ _
    refine wpAny_assign_Name (wpAny_storeName_local hy cs.F.ns (fun h₂ hn₂ hs₂ => ?_) hp)
    have hL₀ : h₀.get? env.locals = none := Heap.get?_none_of_le cs.F.above
    have cs₂ : CS h₀ env.locals (fun z => if z = y then some (.ref D) else m z) C oC' D ys news h₂ :=
      ⟨⟨hn₂, fun b o e => hs₂.extBut b o (fun q => by rw [q, hL₀] at e; cases e) (cs.F.keep b o e), cs.F.above⟩, fun p hp => ⟨hs₂.extBut _ _ (cs.N p hp).2.1 (cs.N p hp).1, (cs.N p hp).2⟩, cs.off, cs.cd, cs.ns⟩
    refine ⟨mC, hm.ns (cs₂.N _ List.mem_cons_self).1, fun h5 hs5 => ?_⟩
    obtain ⟨F5, N5⟩ := cs₂.letGo hs5
    exact fin D ys h5 _ hF F5 N5 fun p hp => (cs.off p hp).2
  have loop : ∀ tk₁, codeAny (model prog w) A (.compLoop (LC2 (.Name c pe) (.Name x px) iter (.Name c pc) i2 scope pos) 0 (.ref s.heap.objs.size) (.ref H1.objs.size) (compEnvC scope cl H2.objs.size env))
      (compPost (model prog w) A E (some (assign (.Name y py) env)) (fun _ s' => Q .next s') (.ref H1.objs.size) H2.objs.size) { s with heap := h₁, toks := tk₁ } := fun tk₁ => by
    refine loop_outer (fun k s' => ∃ h' tk' oC' oI ys i, s' = { s with heap := h', toks := tk' } ∧ k = vs.length + 1 - i ∧ i ≤ vs.length ∧ CS h₀ env.locals m H2.objs.size oC' H1.objs.size ys ((s.heap.objs.size, oI) :: news) h' ∧ itObj oI l i ∧ J i ys) ?_ (vs.length + 1)
      ⟨h₁, tk₁, oC, _, [], 0, rfl, rfl, Nat.zero_le _, CS₁, ⟨rfl, rfl⟩, hJ0⟩ (fun _ => rfl) (hs2 _)
    intro n s' hq2
    (try k_fold)
    obtain ⟨h', tk', oC', oI, ys, i, rfl, rfl, hi, cs', hob, hJi⟩ := hq2
    have zI := cs'.N _ (List.mem_cons_of_mem _ (List.mem_cons_of_mem _ List.mem_cons_self))
    have hl' : h'.IsList l vs.toArray := News.isList cs'.N (.tail _ (.tail _ (.tail _ hl)))
    have hit : h'.IsListIter s.heap.objs.size l i := ⟨oI, zI.1, hob.1, hob.2⟩
    by_cases hlt : i < vs.length
    · refine wpAny_pyNext_list_item hit hl' (x := vs[i]) (by simp [hlt]) fun h2 hit2 hs2' => ?_
      obtain ⟨oI2, e2, hc2, hd2⟩ := id hit2
      refine comp_name (s := { s with heap := h2, toks := tk' }) hkind hx (cs'.step offI hs2' e2) fun h3 tk3 oC3 mC cs3 ho3 hv3 => ?_
      refine wpAny_mono (turn i vs[i] ys _ _ _ _ _ h3 tk3 mC (by simp [hlt]) hJi cs3 ho3 hv3) (fun xv s₃ h => ?_) fun _ _ e => e
      obtain ⟨l2, vs2, tl, h4, tk4, n2, rfl, rfl, kp4, fs4, hm4, hJ4⟩ := h
      have cs4 := cs3.join kp4 fs4
      refine inner_run (s₁ := { s with heap := h4, toks := tk4 }) hh hkind hc hcn ⟨n2, List.mem_append_left _ hm4⟩ (hJl _ _ hJ4) cs4 fun h5 tk5 oC5 cs5 => ?_
      refine ⟨rfl, vs.length + 1 - (i + 1), by lia, h5, tk5, oC5, oI2, ys ++ vs2, i + 1, rfl, rfl, hlt, cs5.sub fun p hp => List.mem_append_right _ hp, ⟨hc2, hd2⟩, hJ4⟩
    · obtain rfl : i = vs.length := Nat.le_antisymm hi (Nat.not_lt.mp hlt)
      refine wpAny_pyNext_list_end hh hit hl' (by first | k_mem | rfl | simp) fun h2 he2 => ?_
      exact last _ _ _ _ h2 tk' (cs'.over offI (fun b o hb e => he2 b o hb e)) hJi
  have N₁ : h₁.get? s.heap.objs.size = some { cls := .type "list_iterator", data := .fields #[.ref l, .int 0 0] } := k1 _ _ hI1
  refine codeAny_compStart_list (loop _) (wpAny_noRaise ?_)
  refine wpAny_pyIter_listiter (i := 0) ⟨_, N₁, rfl, rfl⟩ ?_
  exact loop _
end K_comp_two_assign
section
variable {prog : Program} {w : World} {A : Around} {E : Value → Shared → Prop} {s : Shared} {env : Env} {h₀ : Heap} {L : Addr} {m : Str → Option Value}
theorem comp_two_assign {x c y : Str} {px pc pe py spos : Pos} {iter i2 : Expr} {scope : Scope} {cl : List (Str × Addr)} {pos : Pos} {Q : Flow → Shared → Prop} {l : Addr} {vs : List Value} {news : List (Addr × Obj)} {n0 : Nat} (J : Nat → List Value → Prop)
    (F : Fr h₀ L s.heap m) (N : News h₀ L s.heap news) (hh : A.handled = none) (hLe : env.locals = L)
    (hsw : swapsWith (LC2 (.Name c pe) (.Name x px) iter (.Name c pc) i2 scope pos) (some (.Name y py)) spos.line env = pure true)
    (hclos : closureFor scope env = pure cl) (hcell : ∀ y ∈ scope.names, y.2 ≠ .cell) (hkind : scope.kind = .function)
    (hnames : ∀ y ∈ scope.names, y.2 = .local → scope.names.lookup y.1 = some .local) (hs : ∀ x, foldedSetIterable iter env x = pure x)
    (hs2 : ∀ (C : Addr) x, foldedSetIterable i2 (compEnvC scope cl C env) x = pure x)
    (hx : scope.names.lookup x = some .local) (hc : scope.names.lookup c = some .local) (hcn : (c == ("__debug__" : Str)) = false)
    (hy : env.kindOf y = some .local) (hp : (env.scope.kind == .class || (env.scope.kind == .module && env.locals != env.globals)) = false)
    (hl : (l, W.listOf vs.toArray n0) ∈ news)
    (hiter : ∀ Q' : Value → Shared → Prop, Q' (.ref l) s → wpAny (model prog w) A (eval iter env) Q' E s)
    (hJ0 : J 0 []) (hJl : ∀ i ys, J i ys → ys.length ≤ 1000)
    (turn : ∀ i v ys C oC D I oI h tk mC, vs[i]? = some v → J i ys → CS h₀ L m C oC D ys ((I, oI) :: news) h → NsObj oC mC → mC x = some v →
      wpAny (model prog w) A (eval i2 (compEnvC scope cl C env)) (fun xv s₃ => TwoEnd s J i ys h xv s₃) FF { s with heap := h, toks := tk })
    (fin : ∀ D ys h tk, J vs.length ys → Fr h₀ L h (fun z => if z = y then some (.ref D) else m z) → News h₀ L h ((D, lst ys) :: news) → (∀ p ∈ news, p.1 ≠ D) → Q .next { s with heap := h, toks := tk }) :
    wpAny (model prog w) A (exec (.Assign [.Name y py] (LC2 (.Name c pe) (.Name x px) iter (.Name c pc) i2 scope pos) spos) env) Q E s :=
  pickAll K_comp_two_assign.ne (P := fun c => @K_comp_two_assign.Pκ (c.1) (c.2.1) (c.2.2.1) (c.2.2.2.1) (c.2.2.2.2.1) (c.2.2.2.2.2.1) (c.2.2.2.2.2.2.1) (c.2.2.2.2.2.2.2.1) (c.2.2.2.2.2.2.2.2.1) (c.2.2.2.2.2.2.2.2.2.1) (c.2.2.2.2.2.2.2.2.2.2.1) (c.2.2.2.2.2.2.2.2.2.2.2.1) (c.2.2.2.2.2.2.2.2.2.2.2.2.1) (c.2.2.2.2.2.2.2.2.2.2.2.2.2.1) (c.2.2.2.2.2.2.2.2.2.2.2.2.2.2.1) (c.2.2.2.2.2.2.2.2.2.2.2.2.2.2.2.1) (c.2.2.2.2.2.2.2.2.2.2.2.2.2.2.2.2.1) (c.2.2.2.2.2.2.2.2.2.2.2.2.2.2.2.2.2.1) (c.2.2.2.2.2.2.2.2.2.2.2.2.2.2.2.2.2.2.1) (c.2.2.2.2.2.2.2.2.2.2.2.2.2.2.2.2.2.2.2.1) (c.2.2.2.2.2.2.2.2.2.2.2.2.2.2.2.2.2.2.2.2.1) (c.2.2.2.2.2.2.2.2.2.2.2.2.2.2.2.2.2.2.2.2.2.1) (c.2.2.2.2.2.2.2.2.2.2.2.2.2.2.2.2.2.2.2.2.2.2.1) (c.2.2.2.2.2.2.2.2.2.2.2.2.2.2.2.2.2.2.2.2.2.2.2.1) (c.2.2.2.2.2.2.2.2.2.2.2.2.2.2.2.2.2.2.2.2.2.2.2.2.1) (c.2.2.2.2.2.2.2.2.2.2.2.2.2.2.2.2.2.2.2.2.2.2.2.2.2.1) (c.2.2.2.2.2.2.2.2.2.2.2.2.2.2.2.2.2.2.2.2.2.2.2.2.2.2)) K_comp_two_assign.core (prog, w, A, E, s, env, h₀, m, x, c, y, px, pc, pe, py, spos, iter, i2, scope, cl, pos, Q, l, vs, news, n0, J) L F N hh hLe hsw hclos hcell hkind hnames hs hs2 hx hc hcn hy hp hl hiter hJ0 hJl turn fin
end
end Mine
end
section
open PySem PySem.W PyProof.Rows PySem.Calls
open PyProof.Rows.LCg (NsObj ns_obj lst lst_snoc SrcAt)
set_option Elab.async false
set_option maxRecDepth 100000
set_option maxHeartbeats 4000000
namespace Mine
theorem same_bools {prog : Program} {w : World} {A : Around} {s : Shared} {E Q : Value → Shared → Prop} {T D : Addr} {bs : List Bool} (hT : s.heap.IsList T (bs.map Value.bool).toArray) (hD : s.heap.IsList D (bs.map Value.bool).toArray) (hu : A.units < cLine) (h : Q (.bool true) s) :
    wpAny (model prog w) A (compareOp .Eq (.ref T) (.ref D)) Q E s := by
  refine cmp_ofEq ?_
  have := PySem.SeqAt.RcAt.lists (A := A) (s := s) (e := fun _ => true) hT hD rfl hu fun j h1 h2 => by
    have e : (bs.map Value.bool).toArray[j] = Value.bool (bs[j]'(by simpa using h1)) := by simp
    rw [e]
    have := PySem.SeqAt.EqAt.bool_bool (A := A.in1) (s := s) (bs[j]'(by simpa using h1)) (bs[j]'(by simpa using h1))
    simpa using this
  have e2 : (List.range (bs.map Value.bool).toArray.size).all (fun _ => true) = true := by simp
  rw [e2] at this
  exact this prog w E Q h
/-- the law's state ahead of its loop and in it -/
inductive LJ (g : Heap) (L T D : Addr) (il cl : Addr) (iv cv : List Value) (its : List It) (codes : List Nat) (tp : Addr) (tvs : List Value) (i : Nat) (m : Str → Option Value) (news : List (Addr × Obj)) : Prop
  | mk (ps1 : _) (ps2 : _) (co : _) (bs : List Bool) (n1 : _) (n2 : _) (n3 : _) (n4 : _) (n5 : _) (X : _) (v : _) (h1 : (m (Str.ofString "items") = some (.ref il) ∧ m (Str.ofString "codes") = some (.ref cl) ∧ m (Str.ofString "told") = some (.ref T) ∧ m (Str.ofString "due") = some (.ref D))) (h2 : news = (113, tabObj ps1) :: (57, tabObj ps2) :: (L + 1, co) :: (T, W.listOf (List.toArray (bs.map Value.bool)) n1) :: (D, W.listOf (List.toArray (bs.map Value.bool)) n2) :: (il, W.listOf (List.toArray iv) n3) :: (cl, W.listOf (List.toArray cv) n4) :: (tp, tupObj (List.toArray tvs) n5) :: X) (h3 : co.data = .cell v) (h4 : TabOk g L X 139 38 (Str.ofString "_law_pattern.<locals>.<lambda>") (tabObj ps1)) (h5 : TabL g L X lp lq ps2) (h6 : All2 (ItIn X) iv its) (h7 : (∀ p ∈ X, p.1 ≠ 113 ∧ p.1 ≠ 57 ∧ p.1 ≠ L + 1 ∧ p.1 ≠ T ∧ p.1 ≠ D ∧ p.1 ≠ il ∧ p.1 ≠ cl ∧ p.1 ≠ tp)) (h8 : bs.length = i) : LJ g L T D il cl iv cv its codes tp tvs i m news
/-- where a comprehension's element ends behind a call -/
theorem CEndI.grow {h₀ : Heap} {L : Addr} {m : Str → Option Value} {C D I : Addr} {oC oI : Obj} {ys : List Value} {s₁ : Shared} {P : List (Addr × Obj) → Prop} {h' : Heap} {tk' : Nat} {nw tl : List (Addr × Obj)} {mC : Str → Option Value}
    (F : Fr h₀ L h' m) (N : News h₀ L h' (((C, oC) :: (D, lst ys) :: (I, oI) :: nw) ++ tl)) (O : OwnOff tl (((C, oC) :: (D, lst ys) :: (I, oI) :: nw).map (·.1))) (off : ∀ p ∈ (I, oI) :: nw, p.1 ≠ C ∧ p.1 ≠ D) (cd : C ≠ D) (ns : NsObj oC mC) (offI : ∀ p ∈ nw, p.1 ≠ I) (hP : P (nw ++ tl)) :
    CEndI h₀ L m C D I oI ys s₁ P { s₁ with heap := h', toks := tk' } :=
  CEndI.mk (news' := nw ++ tl) F N (fun p hp => by
    rcases List.mem_cons.mp hp with rfl | hp
    · exact off _ (.head _)
    · rcases List.mem_append.mp hp with hp | hp
      · exact off p (.tail _ hp)
      · exact ⟨O p hp C (by simp), O p hp D (by simp)⟩) cd ns (off_app offI fun p hp => O p hp I (by simp)) hP
end Mine
namespace Mine
/-- no code object -/
def NotCode (o : Obj) : Prop := ∀ vs x t, o.data = .fields vs → vs[1]? ≠ some (Value.str x t)
theorem NotCode.list {items : Array Value} {n : Nat} : NotCode (W.listOf items n) := fun _ _ _ e => by cases e
theorem NotCode.tup {items : Array Value} {n : Nat} : NotCode (tupObj items n) := fun _ _ _ e => by cases e
theorem NotCode.cell {o : Obj} {v : Option Value} (h : o.data = .cell v) : NotCode o := fun _ _ _ e => by rw [h] at e; cases e
theorem NotCode.iter {o : Obj} {t : Addr} {i : Int} (h : o.data = .fields #[.ref t, .int i 0]) : NotCode o := fun vs x t e => by
  rw [h] at e; cases e
  intro q; simp at q
theorem NotCode.tab {ps : Array Value} (h : TriplesOk ps.toList) : NotCode (tabObj ps) := fun vs x t e => by
  cases e
  intro q
  rw [← Array.getElem?_toList] at q
  revert q h
  generalize ps.toList = l
  intro h q
  cases l with
  | nil => simp at q
  | cons a l =>
    cases l with
    | nil => simp at q
    | cons b l =>
      simp at q
      subst q
      simp [TriplesOk] at h
theorem TabOk.triples {g : Heap} {L : Addr} {xs : List (Addr × Obj)} {ln col : Nat} {qual : Str} {ps : Array Value} (x : TabOk g L xs ln col qual (tabObj ps)) : NotCode (tabObj ps) := by
  rcases x with e | ⟨c', e, _⟩
  · rw [e]; intro vs x t e2; cases e2; intro q; simp at q
  · rw [e]; intro vs x t e2; cases e2; intro q; simp [rawInt] at q
theorem code_off {h : Heap} {a b : Addr} {o o' : Obj} (ha : h.get? a = some o) (hb : h.get? b = some o') (hc : ∃ vs x t, o.data = .fields vs ∧ vs[1]? = some (Value.str x t)) (hn : NotCode o') : @Ne Nat a b := fun e => by
  obtain ⟨vs, x, t, hd, hv⟩ := hc
  have e' : a = b := e
  rw [e', hb] at ha
  rw [Option.some.inj ha] at hn
  exact hn vs x t hd hv
theorem ItIn.atH {h : Heap} {X : List (Addr × Obj)} {v : Value} {it : It} (k : ∀ p ∈ X, h.get? p.1 = some p.2) (x : ItIn X v it) : ItAt h v it := by
  obtain ⟨a, l, vs, t, n1, n2, e, h1, h2, h3⟩ := x
  exact ⟨a, l, vs, t, e, ⟨_, k _ h1, rfl, _, rfl⟩, ⟨_, k _ h2, rfl, _, rfl⟩, h3⟩
end Mine
namespace Mine
theorem new_first4 {h₀ h : Heap} {L a b c d : Addr} {o1 o2 o3 o4 : Obj} {rest : List (Addr × Obj)} {P : Prop} (_N : News h₀ L h ((a, o1) :: (b, o2) :: (c, o3) :: (d, o4) :: rest)) (k : ∀ x y z u, x = a → y = b → z = c → u = d → P) : P := k a b c d rfl rfl rfl rfl
end Mine
namespace Mine
open PyProof.Rows.LCg (NsObj ns_obj lst lst_snoc SrcAt)
theorem law_ledger {h₀ h : Heap} {L tp tt D T cl il : Addr} {o2 : Obj} {iv cv : List Value} {ta tb : Tok} {n1 n2 n5 : Nat} {pd p1 p113 p57 : Addr × Obj} {nw : List (Addr × Obj)}
    (N : News h₀ L h ((tp, ({ cls := .type "tuple", data := .seq #[.int 32 ta, .int 128 tb] n5 } : Obj)) :: (tt, o2) :: (D, W.listOf #[] n2) :: (T, W.listOf #[] n1) :: (cl, lst cv) :: (il, lst iv) :: ([pd, p1, p113, p57] ++ nw))) :
    ∃ ta tb n1 n2 n3 n4 n5, News h₀ L h (p113 :: p57 :: p1 :: (T, W.listOf (List.toArray (([] : List Bool).map Value.bool)) n1) :: (D, W.listOf (List.toArray (([] : List Bool).map Value.bool)) n2) :: (il, W.listOf (List.toArray iv) n3) :: (cl, W.listOf (List.toArray cv) n4) :: (tp, tupObj (List.toArray [.int 32 ta, .int 128 tb]) n5) :: nw) := by
  obtain ⟨n3, e3⟩ : ∃ n, lst iv = W.listOf (List.toArray iv) n := ⟨_, rfl⟩
  obtain ⟨n4, e4⟩ : ∃ n, lst cv = W.listOf (List.toArray cv) n := ⟨_, rfl⟩
  rw [e3, e4] at N
  exact ⟨ta, tb, n1, n2, n3, n4, n5, fun q hq => N q (sub_cons (by k_mem) (sub_cons (by k_mem) (sub_cons (by k_mem) (sub_cons (by k_mem) (sub_cons (by k_mem) (sub_cons (by k_mem) (sub_cons (by k_mem) (sub_cons (by k_mem) fun r hr => .tail _ (.tail _ (.tail _ (.tail _ (.tail _ (.tail _ (.tail _ (.tail _ (.tail _ (.tail _ hr)))))))))))))))) q hq)⟩
end Mine
end
section
open PySem PySem.W PyProof.Rows PySem.Calls
set_option Elab.async false
set_option maxRecDepth 100000
set_option maxHeartbeats 4000000
namespace Mine
def SpecGAt (w : World) (f : Addr) (vs : List Value) (D U : Nat) (h₀ : Heap) (P : Addr) (V : Heap → Obj → Prop) (R : List (Addr × Obj) → Value → Prop) (dp un : Nat) (fr : Option (List Env)) (gd : Option (List Code)) (s : Shared) (Q E : Value → Shared → Prop) (o : Obj) : Prop :=
  dp + D < recursionLimit → un + U < cLine → Kp h₀ s.heap → h₀.get? P = none → s.heap.get? P = some o → V s.heap o → (∀ v tl h' tk' g' o', (∀ b x, b ≠ P → s.heap.get? b = some x → h'.get? b = some x) → h'.get? P = some o' → V h' o' → (∀ p ∈ tl, h'.get? p.1 = some p.2 ∧ p.1 ≠ P ∧ s.heap.get? p.1 = none) → (AllBare s.gens → AllBare g') → R tl v → Q v { s with heap := h', toks := tk', gens := g' }) →
    wpAny (model MP w) (AA dp un fr gd) (call (.ref f) vs) Q E s
theorem specG_of {w : World} {f : Addr} {vs : List Value} {D U : Nat} {h₀ : Heap} {P : Addr} {V : Heap → Obj → Prop} {R : List (Addr × Obj) → Value → Prop} (H : ∀ dp un fr gd s Q E o, SpecGAt w f vs D U h₀ P V R dp un fr gd s Q E o) : SpecG w f vs D U h₀ P V R := by
  rintro ⟨hd, dp, fr, gd, un⟩ s Q E o hA hdp hun a b c d e
  cases hA
  exact H dp un fr gd s Q E o hdp hun a b c d e
def HBGX (f : Addr) (w : World) (g : Heap) (L : Addr) (dp un : Nat) (fr : Option (List Env)) (gd : Option (List Code)) (s : Shared) (Q : Value → Shared → Prop) (binds : List (Str × Value)) (P : Addr) (o : Obj) (h₁ : Heap) (tk : Nat) (body : List Stmt) (qual : Str) (scope : Scope) (cdv : Value) : Prop :=
  Fr g L h₁ (fun x => binds.reverse.lookup x) → News g L h₁ [(P, o)] →
      wpAny (model MP w) (AA (dp + 1) (un + 3) (fr.map (envOf qual scope L f cdv :: ·)) gd) (execs body (envOf qual scope L f cdv))
        (fun fl s' => Q (match fl with | .ret v => v | _ => .none) s') (fun _ _ => False) { s with heap := h₁, toks := tk }
def HBG (K : Frag) (f : Addr) (w : World) (g : Heap) (L : Addr) (dp un : Nat) (fr : Option (List Env)) (gd : Option (List Code)) (s : Shared) (Q : Value → Shared → Prop) (binds : List (Str × Value)) (P : Addr) (o : Obj) (h₁ : Heap) (tk : Nat) : Prop :=
  ∀ (oc : Value) (od : Option Addr) (osl : Array (Option Value)) (name qual : Str) (params : Arguments) (body : List Stmt) (scope : Scope) (dV kV doc pm : Value) (an : Option Addr) (cdv ct : Value),
    K.lookup f = some ⟨oc, od, .func (fnOf name qual params body scope dV kV doc pm an cdv ct), osl⟩ → HBGX f w g L dp un fr gd s Q binds P o h₁ tk body qual scope cdv
noncomputable def HTG (K : Frag) (f : Addr) (w : World) (g : Heap) (L : Addr) (dp un : Nat) (fr : Option (List Env)) (gd : Option (List Code)) (s : Shared) (Q : Value → Shared → Prop) (binds : List (Str × Value)) (P : Addr) (o : Obj) : Heap × Nat :=
  pick ⟨(default, 0)⟩ fun x => ¬ HBG K f w g L dp un fr gd s Q binds P o x.1 x.2
section
variable {w : World} {K : Frag} {D U : Nat} {h₀ : Heap} {P : Addr} {V : Heap → Obj → Prop} {R : List (Addr × Obj) → Value → Prop} {p : Program} {loose : List Str} {mean : ExcName → Option Value} {mg mb : Str → Option Value}
  {name qual : Str} {params : Arguments} {body : List Stmt} {scope : Scope} {dV kV doc pm cdv ct oc : Value} {an od : Option Addr} {osl : Array (Option Value)} {f : Addr} {vals : List Value}
  {dp un : Nat} {fr : Option (List Env)} {gd : Option (List Code)} {s : Shared} {Q E : Value → Shared → Prop} {o : Obj}
theorem enterPGE (hdp : dp + D < recursionLimit) (hkp : Kp h₀ s.heap) (h0 : h₀.get? P = none) (hP : s.heap.get? P = some o) (hv : V s.heap o)
    (hQ : (∀ v tl h' tk' g' o', (∀ b x, b ≠ P → s.heap.get? b = some x → h'.get? b = some x) → h'.get? P = some o' → V h' o' → (∀ p ∈ tl, h'.get? p.1 = some p.2 ∧ p.1 ≠ P ∧ s.heap.get? p.1 = none) → (AllBare s.gens → AllBare g') → R tl v → Q v { s with heap := h', toks := tk', gens := g' }))
    (g : Heap) (hg : g = less s.heap [P]) (L : Addr) (hL : L = g.objs.size) (X : K.In h₀) (T : Top p loose mean mg mb h₀) (hV : ∀ h h' o, (∀ b x, b ≠ P → h.get? b = some x → h'.get? b = some x) → V h o → V h' o) (binds : List (Str × Value))
    (ho : K.lookup f = some ⟨oc, od, .func (fnOf name qual params body scope dV kV doc pm an cdv ct), osl⟩) (hcd : codeIn K cdv qual = true)
    (hbind : bindArgs (fnOf name qual params body scope dV kV doc pm an cdv ct) ⟨vals, []⟩ = pure binds)
    (hcell : ∀ x ∈ scope.names, x.2 ≠ .cell) (hloc : ∀ x ∈ binds, scope.names.lookup x.1 = some .local)
    (hco : scope.isCoroutine = false) (hgen : scope.isGenerator = false) (hk : scope.kind = .function)
    (h₁ : Heap) (e₁ : h₁ = (HTG K f w g L dp un fr gd s Q binds P o).1) (tk : Nat) (e₂ : tk = (HTG K f w g L dp un fr gd s Q binds P o).2)
    (hb : Kp h₀ g → K.In g → Top p loose mean mg mb g → g.get? P = none → P < L → V g o → (∀ v tl h' tk' g' o', Kp g h' → h'.get? P = some o' → V h' o' → (∀ p ∈ tl, h'.get? p.1 = some p.2 ∧ p.1 ≠ P ∧ g.get? p.1 = none) → (AllBare s.gens → AllBare g') → R tl v → Q v { s with heap := h', toks := tk', gens := g' }) → HBGX f w g L dp un fr gd s Q binds P o h₁ tk body qual scope cdv) :
    wpAny (model MP w) (AA dp un fr gd) (call (.ref f) vals) Q E s := by
  have Xs := X.keeps hkp
  have Ts := T.keeps hkp
  have kg : Kp h₀ (less s.heap [P]) := fun b x e => less_get (hkp b x e) (by simp; rintro rfl; rw [h0] at e; cases e)
  have hPL : P < s.heap.objs.size := Heap.lt_size hP
  have hQ' : (∀ v tl h' tk' g' o', Kp g h' → h'.get? P = some o' → V h' o' → (∀ p ∈ tl, h'.get? p.1 = some p.2 ∧ p.1 ≠ P ∧ g.get? p.1 = none) → (AllBare s.gens → AllBare g') → R tl v → Q v { s with heap := h', toks := tk', gens := g' }) := fun v tl h' tk' g' o' k1 k2 k3 k4 k5 k6 => hQ v tl h' tk' g' o' (fun b y hb e => k1 b y (hg ▸ less_get e (by simp [hb]))) k2 k3 (fun q hq => ⟨(k4 q hq).1, (k4 q hq).2.1, by
      cases e : s.heap.get? q.1 with
      | none => rfl
      | some y => have := less_get (fr := [P]) e (by simp [(k4 q hq).2.1]); rw [← hg, (k4 q hq).2.2] at this; cases this⟩) k5 k6
  have key : ∀ x : Heap × Nat, HBG K f w g L dp un fr gd s Q binds P o x.1 x.2 := by
    refine pickAll ⟨(default, 0)⟩ (P := fun x => HBG K f w g L dp un fr gd s Q binds P o x.1 x.2) ?_
    intro oc' od' osl' name' qual' params' body' scope' dV' kV' doc' pm' an' cdv' ct' ho'
    obtain ⟨q1, q2, q3, q4⟩ := fn_inj (ho'.symm.trans ho)
    rw [q1, q2, q3, q4]
    rw [e₁, e₂] at hb
    exact hb (hg ▸ kg) (X.keeps (hg ▸ kg)) (T.keeps (hg ▸ kg)) (by rw [hg]; exact less_none (by simp)) (by rw [hL, hg, less_size]; exact hPL) (by rw [hg]; exact hV _ _ _ (fun b y hb e => less_get e (by simp [hb])) hv) hQ'
  have hLs : L = s.heap.objs.size := by rw [hL, hg, less_size]
  refine wpAny_noRaise (wpAny_call ?_)
  refine codeAny_call_def (fd := fnOf name qual params body scope dV kV doc pm an cdv ct) (body := body) (binds := binds) (Nat.lt_of_le_of_lt (Nat.le_add_right _ _) hdp) (Xs _ _ ho) rfl Ts.nolimit (codeRec_of Xs hcd) rfl (.of_eq hbind) hcell hloc (fun h₁ hns hk₁ => ?_) hco hgen hk
  subst hLs hg
  exact wpAny_mono (key (h₁, _) _ _ _ _ _ _ _ _ _ _ _ _ _ _ _ ho ⟨hns, fun b y e => hk₁ b y (of_less e), by rw [less_size]; exact Nat.le_refl _⟩
    (fun q hq => by rw [List.mem_singleton.mp hq]; exact ⟨hk₁ _ _ hP, Nat.ne_of_lt hPL, less_none (by simp)⟩)) (fun fl s' q => q) fun _ _ x => x.elim
end
end Mine
end
section
open PySem PySem.W PyProof.Rows PySem.Calls
set_option Elab.async false
set_option maxRecDepth 100000
set_option maxHeartbeats 40000000
namespace Mine
open PyProof.Rows.LCg (NsObj ns_obj lst lst_snoc SrcAt)
section
local macro_rules | `(tactic| walk_at "execs cons") => `(tactic| wtm_at "mXC")
local macro_rules | `(tactic| walk_at "eval Name") => `(tactic| first | with_reducible refine Mine.StopN ?_ | wtm_at "mNM")
local macro_rules | `(tactic| walk_at "subscriptTail Name BinOp ref int") => `(tactic| wtm_at "mS")
local macro_rules | `(tactic| walk_at "subscriptTail Name Name ref int") => `(tactic| wtm_at "mS")
local macro_rules | `(tactic| walk_at "getMethod ref") => `(tactic| with_reducible refine Mine.StopGM ?_)
local macro_rules | `(tactic| walk_at "exec If") => `(tactic| with_reducible first | refine Mine.StopI 31 ?_ | refine Mine.StopI 70 ?_)
local macro_rules | `(tactic| walk_at "exec Assign") => `(tactic| with_reducible refine Mine.StopA 45 ?_)
local macro_rules | `(tactic| walk_at "subscriptTail") => `(tactic| wtm_at "mS")
local macro_rules | `(tactic| walk_at "truthy str") => `(tactic| wtm_at "mS")
local macro_rules | `(tactic| walk_at "truthy ref") => `(tactic| wtm_at "mS")
local macro_rules | `(tactic| walk_at "getAttr") => `(tactic| wtm_at "mS")
local macro_rules | `(tactic| walk_at "subscriptTail Name Slice str ref") => `(tactic| wtm_at "mS")
local macro_rules | `(tactic| walk_at "subscriptTail Name UnaryOp ref int") => `(tactic| wtm_at "mS")
local macro_rules | `(tactic| walk_at "subscriptTail Name Name str int") => `(tactic| (refine item_sZ (by with_reducible assumption) (by lia) (by lia) ?_; intro _ _))
local macro_rules | `(tactic| walk_at "callWith ref") => `(tactic| (refine' Mine.callWith_bnd ?kN ?kM ?_; (case kN => k_asm); (case kM => k_mem)))
local macro_rules | `(tactic| walk_at "BndAt") => `(tactic| k_dflt (first | exact Mine.bnd_at (by k_asm) (by k_mem) | exact Mine.bnd_at (by assumption) (by k_mem)))

namespace K_S_trans
def P (w : World) (h₀ : Heap) (size : Nat) (pat : List Nat) (star : Addr) (tp : Tok) (tq : Tok) (dp : Nat) (un : Nat) (fr : Option (List Env)) (gd : Option (List Code)) (s : Shared) (Q : Value → Shared → Prop) (E : Value → Shared → Prop) (o : Obj) : Prop :=
  ∀ (its : List It) (hS : St w h₀) (hp : pat = patText size its) (hlen : its.length ≤ 10) (hsz : size = 32 ∨ size = 128), SpecGAt w 62 [.str (txt pat) tp, .ref star, .str (txt [46]) tq] 12 1500 h₀ 57 (TabLV 57 lp lq) (fun tl v => ∃ l rv n, v = .ref l ∧ (l, W.listOf (List.toArray rv) n) ∈ tl ∧ All2 (PartR star) rv ((comp its).map (partOf size))) dp un fr gd s Q E o
theorem ne : Nonempty ((World) × (Heap) × (Nat) × (List Nat) × (Addr) × (Tok) × (Tok) × (Nat) × (Nat) × (Option (List Env)) × (Option (List Code)) × (Shared) × (Value → Shared → Prop) × (Value → Shared → Prop) × (Obj)) := ⟨(w0, Classical.ofNonempty, Classical.ofNonempty, Classical.ofNonempty, Classical.ofNonempty, Classical.ofNonempty, Classical.ofNonempty, Classical.ofNonempty, Classical.ofNonempty, Classical.ofNonempty, Classical.ofNonempty, {}, Classical.ofNonempty, Classical.ofNonempty, Classical.ofNonempty)⟩
noncomputable def κ : (World) × (Heap) × (Nat) × (List Nat) × (Addr) × (Tok) × (Tok) × (Nat) × (Nat) × (Option (List Env)) × (Option (List Code)) × (Shared) × (Value → Shared → Prop) × (Value → Shared → Prop) × (Obj) := pick ne fun c => ¬ P (c.1) (c.2.1) (c.2.2.1) (c.2.2.2.1) (c.2.2.2.2.1) (c.2.2.2.2.2.1) (c.2.2.2.2.2.2.1) (c.2.2.2.2.2.2.2.1) (c.2.2.2.2.2.2.2.2.1) (c.2.2.2.2.2.2.2.2.2.1) (c.2.2.2.2.2.2.2.2.2.2.1) (c.2.2.2.2.2.2.2.2.2.2.2.1) (c.2.2.2.2.2.2.2.2.2.2.2.2.1) (c.2.2.2.2.2.2.2.2.2.2.2.2.2.1) (c.2.2.2.2.2.2.2.2.2.2.2.2.2.2)
noncomputable def w : World := κ.1
noncomputable def h₀ : Heap := κ.2.1
noncomputable def size : Nat := κ.2.2.1
noncomputable def pat : List Nat := κ.2.2.2.1
noncomputable def star : Addr := κ.2.2.2.2.1
noncomputable def tp : Tok := κ.2.2.2.2.2.1
noncomputable def tq : Tok := κ.2.2.2.2.2.2.1
noncomputable def dp : Nat := κ.2.2.2.2.2.2.2.1
noncomputable def un : Nat := κ.2.2.2.2.2.2.2.2.1
noncomputable def fr : Option (List Env) := κ.2.2.2.2.2.2.2.2.2.1
noncomputable def gd : Option (List Code) := κ.2.2.2.2.2.2.2.2.2.2.1
noncomputable def s : Shared := κ.2.2.2.2.2.2.2.2.2.2.2.1
noncomputable def Q : Value → Shared → Prop := κ.2.2.2.2.2.2.2.2.2.2.2.2.1
noncomputable def E : Value → Shared → Prop := κ.2.2.2.2.2.2.2.2.2.2.2.2.2.1
noncomputable def o : Obj := κ.2.2.2.2.2.2.2.2.2.2.2.2.2.2
noncomputable def g : Heap := less s.heap [57]
noncomputable def L : Addr := Heap.objs g |>.size
noncomputable def h₁  : Heap := (HTG (hd.heap_39 w.params) 62 w g L dp un fr gd s Q [(Str.ofString "pat", .str (txt pat) tp), (Str.ofString "STAR", .ref star), (Str.ofString "QUESTION_MARK", .str (txt [46]) tq)] 57 o).1
noncomputable def tk  : Nat := (HTG (hd.heap_39 w.params) 62 w g L dp un fr gd s Q [(Str.ofString "pat", .str (txt pat) tp), (Str.ofString "STAR", .ref star), (Str.ofString "QUESTION_MARK", .str (txt [46]) tq)] 57 o).2
noncomputable def pre1 : PSigma fun ττ : (Array Value) → (Addr) → (Addr) → (Nat) → (Heap) → (Str → Option Value) → (Heap) → (Nat) → (Array GenState) → (Nat) → (List It) → (List Value) → (Nat) → (Array Value) → (List (Addr × Obj)) → (Tok) → (Tok) → (Tok) → (Tok) → (List It) → (Bool) → (Nat) → (Nat) → (Nat) → (Nat) → (Nat) → (Nat) → (Nat) → (List Nat) → (List Nat) → (List Nat) → (List Nat) → Prop => (∀ ps0 R b tk2 hz m₁ h3 tk3 g3 i done rv nr ps extra tp tq2 tn ti rest neg a1 b1 c1 lo hh cc nn pre C0 SS SP, ττ ps0 R b tk2 hz m₁ h3 tk3 g3 i done rv nr ps extra tp tq2 tn ti rest neg a1 b1 c1 lo hh cc nn pre C0 SS SP) → P w h₀ size pat star tp tq dp un fr gd s Q E o := ⟨_, fun turn => by
  intro its hS hp hlen hsz hdp hun hkp0 h00 hP0 hv0 hQ0
  w_top off
  refine fillG ?_
  k_fill
  intro _ _
  obtain ⟨X, T⟩ := St.top hS
  refine' enterPGE (K := hd.heap_39 w.params) hdp hkp0 h00 hP0 hv0 hQ0 g rfl L rfl X T TabLV.keeps [(Str.ofString "pat", .str (txt pat) tp), (Str.ofString "STAR", .ref star), (Str.ofString "QUESTION_MARK", .str (txt [46]) tq)] ?k3 ?k4 ?k6 ?k7 ?k8 ?k9 ?k10 ?k11 h₁ rfl tk rfl ?_
  case k3 => k_is
  case k4 => k_is
  case k6 => exact rfl
  case k7 => decide
  case k8 => exact locs rfl
  case k9 => exact rfl
  case k10 => exact rfl
  case k11 => exact rfl
  intro hkp Xg Tg hgP hPL hV hQ F N
  have hL : L = g.objs.size := rfl
  have hS' : St w g := ⟨Xg, _, _, _, _, _, Tg⟩
  clear hS
  have hC57 : CodeHd g 61 57 := code61 w Xg
  have hre : ReAt g 36 := re36 w Xg
  have hroom : (AA (dp + 1) (un + 3) fr gd).depth < recursionLimit := by show dp + 1 < _; lia
  try dsimp only
  have hlen7 := patText_len (size := size) its
  have hpl : (txt pat).length = pat.length := txt_length
  have hpat : pat.length ≤ 200 := by rw [hp]; lia
  obtain ⟨ps0, ho0, hT0⟩ := hV.ok (L := L)
  rw [ho0] at N
  k_steps
  unfold Stop
  (with_reducible rename Fr _ _ _ _ => Fx)
  (with_reducible rename News _ _ _ _ => Nx)
  refine get_add (rv := []) Fx Nx ?_
  intro R b h2 tk2 hR F2 N2 hbR hbl hLb
  subst hR
  have h57R : @Ne Nat 57 R := (off_news Nx)
  have h57b : @Ne Nat b 57 := Nat.ne_of_gt (hbl _ (.head _))
  clear Fx Nx
  k_steps
  unfold Stop
  (with_reducible rename Fr _ _ _ _ => Fx)
  (with_reducible rename News _ _ _ _ => Nx)
  rw [hpl] at Fx
  rename Heap => hz
  refine my_whileG (JT g L star b R pat size its) (n₀ := pat.length) Fx (news_tail3 Nx) ?first ?turn
  case first => exact ⟨0, [], its, [], 0, ps0, [], _, _, _, _, ⟨(by repeat (first | with_reducible assumption | with_reducible exact if_pos rfl | refine (if_neg (by decide)).trans ?_ | rfl)), (by repeat (first | with_reducible assumption | with_reducible exact if_pos rfl | refine (if_neg (by decide)).trans ?_ | rfl)), (by repeat (first | with_reducible assumption | with_reducible exact if_pos rfl | refine (if_neg (by decide)).trans ?_ | rfl)), (by repeat (first | with_reducible assumption | with_reducible exact if_pos rfl | refine (if_neg (by decide)).trans ?_ | rfl)), (by repeat (first | with_reducible assumption | with_reducible exact if_pos rfl | refine (if_neg (by decide)).trans ?_ | rfl)), (by repeat (first | with_reducible assumption | with_reducible exact if_pos rfl | refine (if_neg (by decide)).trans ?_ | rfl)), (by repeat (first | with_reducible assumption | with_reducible exact if_pos rfl | refine (if_neg (by decide)).trans ?_ | rfl))⟩, rfl, hT0, off_nil, off_nil, rfl, hp, All2.nil, rfl, Nat.zero_le _, Nat.zero_le _⟩
  intro k m₁ news₁ h3 tk3 g3 hq1 ab F3 N3
  (try k_fold)
  obtain ⟨i, done, rest, rv, nr, ps, extra, tp, tq2, tn, ti, ⟨mp, ms, mq, ma, mr, mn, mi⟩, rfl, htab, off57, offR, rfl, hd, hall, rfl, hin, hrl⟩ := hq1
  clear Fx Nx
  cases rest with
  | nil =>
    have hi : pat.length ≤ i := List.drop_eq_nil_iff.mp hd
    obtain rfl : i = pat.length := by lia
    rw [List.append_nil] at *
    k_steps
    all_goals first | (exfalso; lia) | skip
    (with_reducible rename Fr _ _ _ _ => Fz)
    (with_reducible rename News _ _ _ _ => Nz)
    exact hQ _ [(R, W.listOf (List.toArray rv) nr)] _ _ _ _ (kp_of Fz) (Nz _ (.head _)).1 (htab.v (P := 57) Fz (fun p hp => Nz p (by
      rcases List.mem_cons.mp hp with rfl | hp
      · exact .head _
      · exact .tail _ (.tail _ (.tail _ hp))))) (fun p hp => by
        rw [List.mem_singleton.mp hp]
        have z := Nz _ (.tail _ (.tail _ (.head _)))
        exact ⟨z.1, Ne.symm h57R, z.2.2⟩) ab ⟨R, rv, nr, rfl, .head _, hall⟩
  | cons it rest =>
  rw [pat_cons] at hd
  cases it with
  | star =>
    obtain ⟨hx, hilt, hd'⟩ := at_drop hd
    replace hx : pat[((i : Nat) : Int).toNat]? = some _ := hx
    have g1 := eq_sign (c := 42) s42
    rcases list_end rv with rfl | ⟨rv', x, rfl⟩
    · have hc0 : comp done = [] := by have := hall.1; simpa using this.symm
      k_steps
      repeat' ((first | ((with_reducible refine Stop.trf ?_); first | (refine truthy_snoc (by first | (with_reducible assumption) | exact News.isList (by with_reducible assumption) (by repeat (first | exact List.Mem.head _ | refine List.Mem.tail _ ?_)) | is_list) (by lia) ?_; intro _; (try dsimp only)) | (refine truthy_nil (by first | (with_reducible assumption) | exact News.isList (by with_reducible assumption) (by repeat (first | exact List.Mem.head _ | refine List.Mem.tail _ ?_)) | is_list) ?_; intro _; (try dsimp only)))); (try k_steps))
      unfold Stop
      (with_reducible rename Fr _ _ _ _ => Fa)
      (with_reducible rename News _ _ _ _ => Na)
      refine add_own (rest := (57, tabObj ps) :: extra) Fa Na (by repeat (first | exact List.Mem.head _ | refine List.Mem.tail _ ?_)) (by repeat (first | exact List.Mem.head _ | refine List.Mem.tail _ ?_)) hbR (sub_cons (by repeat (first | exact List.Mem.head _ | refine List.Mem.tail _ ?_)) (fun p hp => by repeat (first | exact hp | refine List.Mem.tail _ ?_))) (off_cons h57R offR) (by lia) ?_
      clear Fa Na
      intro h5 F5 N5
      k_steps
      unfold GPost
      (with_reducible rename Fr _ _ _ _ => Fz)
      (with_reducible rename News _ _ _ _ => Nz)
      exact GEnd.mk (n' := pat.length - (i + 1)) ab Fz (nrot3 Nz) (Nat.sub_lt_sub_left (by lia) (by lia)) ⟨i + 1, done ++ [.star], rest, _, _, ps, extra, _, _, _, _, ⟨(by repeat (first | with_reducible assumption | with_reducible exact if_pos rfl | refine (if_neg (by decide)).trans ?_ | rfl)), (by repeat (first | with_reducible assumption | with_reducible exact if_pos rfl | refine (if_neg (by decide)).trans ?_ | rfl)), (by repeat (first | with_reducible assumption | with_reducible exact if_pos rfl | refine (if_neg (by decide)).trans ?_ | rfl)), (by repeat (first | with_reducible assumption | with_reducible exact if_pos rfl | refine (if_neg (by decide)).trans ?_ | rfl)), (by repeat (first | with_reducible assumption | with_reducible exact if_pos rfl | refine (if_neg (by decide)).trans ?_ | rfl)), (by repeat (first | with_reducible assumption | with_reducible exact if_pos rfl | refine (if_neg (by decide)).trans ?_ | rfl)), (by repeat (first | with_reducible assumption | with_reducible exact if_pos rfl | refine (if_neg (by decide)).trans ?_ | rfl))⟩, rfl, htab, off57, offR, by simp, hd', by rw [comp_snoc, compStep_other (.inr (by rw [hc0]; simp)), hc0]; exact All2.snoc All2.nil rfl, rfl, by lia, by simp only [List.length_append, List.length_cons, List.length_nil] at hrl ⊢; lia⟩
    · obtain ⟨zs, y, ezs, hxy⟩ := hall.last'
      have hgl : (rv' ++ [x]).getLast? = some x := List.getLast?_concat
      obtain ⟨cd, it', hcd, rfl⟩ : ∃ cd it', comp done = cd ++ [it'] ∧ partOf size it' = y := by
        rcases list_end (comp done) with e | ⟨cd, it', e⟩
        · rw [e] at ezs; simp at ezs
        · refine ⟨cd, it', e, ?_⟩
          rw [e] at ezs
          simp at ezs
          exact ezs.2
      have hlast : (comp done).getLast? = some it' := by rw [hcd]; exact List.getLast?_concat
      rcases part_star hxy with ⟨rfl, rfl⟩ | ⟨hne, y, ty, rfl⟩
      · k_steps
        repeat' ((first | ((with_reducible refine Stop.trf ?_); first | (refine truthy_snoc (by first | (with_reducible assumption) | exact News.isList (by with_reducible assumption) (by repeat (first | exact List.Mem.head _ | refine List.Mem.tail _ ?_)) | is_list) (by lia) ?_; intro _; (try dsimp only)) | (refine truthy_nil (by first | (with_reducible assumption) | exact News.isList (by with_reducible assumption) (by repeat (first | exact List.Mem.head _ | refine List.Mem.tail _ ?_)) | is_list) ?_; intro _; (try dsimp only)))); (try k_steps))
        unfold Stop
        refine item_last (by first | (with_reducible assumption) | exact News.isList (by with_reducible assumption) (by repeat (first | exact List.Mem.head _ | refine List.Mem.tail _ ?_))) hgl ?_ (by with_unfolding_all rfl)
        k_steps
        unfold GPost
        (with_reducible rename Fr _ _ _ _ => Fz)
        (with_reducible rename News _ _ _ _ => Nz)
        exact GEnd.mk (n' := pat.length - (i + 1)) ab Fz Nz (by lia) ⟨i + 1, done ++ [.star], rest, _, _, ps, extra, _, _, _, _, ⟨(by repeat (first | with_reducible assumption | with_reducible exact if_pos rfl | refine (if_neg (by decide)).trans ?_ | rfl)), (by repeat (first | with_reducible assumption | with_reducible exact if_pos rfl | refine (if_neg (by decide)).trans ?_ | rfl)), (by repeat (first | with_reducible assumption | with_reducible exact if_pos rfl | refine (if_neg (by decide)).trans ?_ | rfl)), (by repeat (first | with_reducible assumption | with_reducible exact if_pos rfl | refine (if_neg (by decide)).trans ?_ | rfl)), (by repeat (first | with_reducible assumption | with_reducible exact if_pos rfl | refine (if_neg (by decide)).trans ?_ | rfl)), (by repeat (first | with_reducible assumption | with_reducible exact if_pos rfl | refine (if_neg (by decide)).trans ?_ | rfl)), (by repeat (first | with_reducible assumption | with_reducible exact if_pos rfl | refine (if_neg (by decide)).trans ?_ | rfl))⟩, rfl, htab, off57, offR, by simp, hd', by rw [comp_snoc, compStep_star hlast]; exact hall, rfl, by lia, by simp only [List.length_append, List.length_cons, List.length_nil] at hrl ⊢; lia⟩
      · k_steps
        repeat' ((first | ((with_reducible refine Stop.trf ?_); first | (refine truthy_snoc (by first | (with_reducible assumption) | exact News.isList (by with_reducible assumption) (by repeat (first | exact List.Mem.head _ | refine List.Mem.tail _ ?_)) | is_list) (by lia) ?_; intro _; (try dsimp only)) | (refine truthy_nil (by first | (with_reducible assumption) | exact News.isList (by with_reducible assumption) (by repeat (first | exact List.Mem.head _ | refine List.Mem.tail _ ?_)) | is_list) ?_; intro _; (try dsimp only)))); (try k_steps))
        unfold Stop
        refine item_last (by first | (with_reducible assumption) | exact News.isList (by with_reducible assumption) (by repeat (first | exact List.Mem.head _ | refine List.Mem.tail _ ?_))) hgl ?_ (by with_unfolding_all rfl)
        k_steps
        repeat' ((first | ((with_reducible refine Stop.isn ?_); refine PySem.wpAny_isNot_other (by rfl) (by intro x; cases x) ?_)); (try k_steps))
        unfold Stop
        (with_reducible rename Fr _ _ _ _ => Fa)
        (with_reducible rename News _ _ _ _ => Na)
        refine add_own (rest := (57, tabObj ps) :: extra) Fa Na (by repeat (first | exact List.Mem.head _ | refine List.Mem.tail _ ?_)) (by repeat (first | exact List.Mem.head _ | refine List.Mem.tail _ ?_)) hbR (sub_cons (by repeat (first | exact List.Mem.head _ | refine List.Mem.tail _ ?_)) (fun p hp => by repeat (first | exact hp | refine List.Mem.tail _ ?_))) (off_cons h57R offR) (by lia) ?_
        clear Fa Na
        intro h5 F5 N5
        k_steps
        unfold GPost
        (with_reducible rename Fr _ _ _ _ => Fz)
        (with_reducible rename News _ _ _ _ => Nz)
        exact GEnd.mk (n' := pat.length - (i + 1)) ab Fz (nrot3 Nz) (Nat.sub_lt_sub_left (by lia) (by lia)) ⟨i + 1, done ++ [.star], rest, _, _, ps, extra, _, _, _, _, ⟨(by repeat (first | with_reducible assumption | with_reducible exact if_pos rfl | refine (if_neg (by decide)).trans ?_ | rfl)), (by repeat (first | with_reducible assumption | with_reducible exact if_pos rfl | refine (if_neg (by decide)).trans ?_ | rfl)), (by repeat (first | with_reducible assumption | with_reducible exact if_pos rfl | refine (if_neg (by decide)).trans ?_ | rfl)), (by repeat (first | with_reducible assumption | with_reducible exact if_pos rfl | refine (if_neg (by decide)).trans ?_ | rfl)), (by repeat (first | with_reducible assumption | with_reducible exact if_pos rfl | refine (if_neg (by decide)).trans ?_ | rfl)), (by repeat (first | with_reducible assumption | with_reducible exact if_pos rfl | refine (if_neg (by decide)).trans ?_ | rfl)), (by repeat (first | with_reducible assumption | with_reducible exact if_pos rfl | refine (if_neg (by decide)).trans ?_ | rfl))⟩, rfl, htab, off57, offR, by simp, hd', by rw [comp_snoc, compStep_other (.inr (by rw [hlast]; simp [hne])), List.map_append]; exact All2.snoc hall rfl, rfl, by lia, by simp only [List.length_append, List.length_cons, List.length_nil] at hrl ⊢; lia⟩
  | any =>
    obtain ⟨hx, hilt, hd'⟩ := at_drop hd
    replace hx : pat[((i : Nat) : Int).toNat]? = some _ := hx
    have g1 := ne_sign (x := 63) s42 (by decide)
    have g2 := eq_sign (c := 63) s63
    k_steps
    unfold Stop
    (with_reducible rename Fr _ _ _ _ => Fa)
    (with_reducible rename News _ _ _ _ => Na)
    refine add_own (rest := (57, tabObj ps) :: extra) Fa Na (by repeat (first | exact List.Mem.head _ | refine List.Mem.tail _ ?_)) (by repeat (first | exact List.Mem.head _ | refine List.Mem.tail _ ?_)) hbR (sub_cons (by repeat (first | exact List.Mem.head _ | refine List.Mem.tail _ ?_)) (fun p hp => by repeat (first | exact hp | refine List.Mem.tail _ ?_))) (off_cons h57R offR) (by lia) ?_
    clear Fa Na
    intro h5 F5 N5
    k_steps
    unfold GPost
    (with_reducible rename Fr _ _ _ _ => Fz)
    (with_reducible rename News _ _ _ _ => Nz)
    exact GEnd.mk (n' := pat.length - (i + 1)) ab Fz (nrot3 Nz) (Nat.sub_lt_sub_left (by lia) (by lia)) ⟨i + 1, done ++ [.any], rest, _, _, ps, extra, _, _, _, _, ⟨(by repeat (first | with_reducible assumption | with_reducible exact if_pos rfl | refine (if_neg (by decide)).trans ?_ | rfl)), (by repeat (first | with_reducible assumption | with_reducible exact if_pos rfl | refine (if_neg (by decide)).trans ?_ | rfl)), (by repeat (first | with_reducible assumption | with_reducible exact if_pos rfl | refine (if_neg (by decide)).trans ?_ | rfl)), (by repeat (first | with_reducible assumption | with_reducible exact if_pos rfl | refine (if_neg (by decide)).trans ?_ | rfl)), (by repeat (first | with_reducible assumption | with_reducible exact if_pos rfl | refine (if_neg (by decide)).trans ?_ | rfl)), (by repeat (first | with_reducible assumption | with_reducible exact if_pos rfl | refine (if_neg (by decide)).trans ?_ | rfl)), (by repeat (first | with_reducible assumption | with_reducible exact if_pos rfl | refine (if_neg (by decide)).trans ?_ | rfl))⟩, rfl, htab, off57, offR, by simp, hd', by rw [comp_snoc, compStep_other (.inl (by simp)), List.map_append]; exact All2.snoc hall ⟨_, rfl⟩, rfl, by lia, by simp only [List.length_append, List.length_cons, List.length_nil] at hrl ⊢; lia⟩
  | sign c =>
    have hsafe := safe_sv (c := c) hsz
    obtain ⟨hx, hilt, hd'⟩ := at_drop hd
    replace hx : pat[((i : Nat) : Int).toNat]? = some _ := hx
    obtain ⟨n1, n2, n3, n4, n5, n6, n7, n8, n9, n10, n11, n12⟩ := safe_ne hsafe
    have g1 := ne_sign s42 n1
    have g2 := ne_sign s63 n2
    have g3' := ne_sign s91 n3
    k_steps
    repeat' ((first | ((with_reducible refine Stop.ref ?_); (first | refine use_spec1 (S_escapeT _ _ _ _ stK (by assumption)) rfl (by first | exact bud (by assumption) (by rfl) | exact bud0 (by assumption) (by rfl) | (dsimp only [AA]; lia)) (by first | exact bud (by assumption) (by rfl) | exact bud0 (by assumption) (by rfl) | (dsimp only [AA]; lia)) (by assumption) (by assumption) ?_); intro _ _ _ _ _)); (try k_steps))
    unfold Stop
    (with_reducible rename Fr _ _ _ _ => Fa)
    (with_reducible rename News _ _ _ _ => Na)
    refine add_own (rest := (57, tabObj ps) :: extra) Fa Na (by repeat (first | exact List.Mem.head _ | refine List.Mem.tail _ ?_)) (by repeat (first | exact List.Mem.head _ | refine List.Mem.tail _ ?_)) hbR (sub_cons (by repeat (first | exact List.Mem.head _ | refine List.Mem.tail _ ?_)) (fun p hp => by repeat (first | exact hp | refine List.Mem.tail _ ?_))) (off_cons h57R offR) (by lia) ?_
    clear Fa Na
    intro h5 F5 N5
    k_steps
    unfold GPost
    (with_reducible rename Fr _ _ _ _ => Fz)
    (with_reducible rename News _ _ _ _ => Nz)
    exact GEnd.mk (n' := pat.length - (i + 1)) ab Fz (nrot3 Nz) (Nat.sub_lt_sub_left (by lia) (by lia)) ⟨i + 1, done ++ [.sign c], rest, _, _, ps, extra, _, _, _, _, ⟨(by repeat (first | with_reducible assumption | with_reducible exact if_pos rfl | refine (if_neg (by decide)).trans ?_ | rfl)), (by repeat (first | with_reducible assumption | with_reducible exact if_pos rfl | refine (if_neg (by decide)).trans ?_ | rfl)), (by repeat (first | with_reducible assumption | with_reducible exact if_pos rfl | refine (if_neg (by decide)).trans ?_ | rfl)), (by repeat (first | with_reducible assumption | with_reducible exact if_pos rfl | refine (if_neg (by decide)).trans ?_ | rfl)), (by repeat (first | with_reducible assumption | with_reducible exact if_pos rfl | refine (if_neg (by decide)).trans ?_ | rfl)), (by repeat (first | with_reducible assumption | with_reducible exact if_pos rfl | refine (if_neg (by decide)).trans ?_ | rfl)), (by repeat (first | with_reducible assumption | with_reducible exact if_pos rfl | refine (if_neg (by decide)).trans ?_ | rfl))⟩, rfl, htab, off57, offR, by simp, hd', by rw [comp_snoc, compStep_other (.inl (by simp)), List.map_append]; exact All2.snoc hall ⟨_, rfl⟩, rfl, by lia, by simp only [List.length_append, List.length_cons, List.length_nil] at hrl ⊢; lia⟩
  | br neg a1 b1 c1 =>
    have hlo := safe_lo (a := a1) (b := b1) hsz
    have hhi := safe_hi (a := a1) (b := b1) hsz
    have hcc := safe_sv (c := c1) hsz
    have hle : sv size (min (a1 % size) (b1 % size)) ≤ sv size (max (a1 % size) (b1 % size)) := sv_le.mpr (Nat.le_trans (Nat.min_le_left _ _) (Nat.le_max_left _ _))
    have hpcT : pcText size (.br neg a1 b1 c1) = 91 :: ((if neg then [94] else []) ++ [sv size (min (a1 % size) (b1 % size)), 45, sv size (max (a1 % size) (b1 % size)), sv size (c1 % size), 93]) := rfl
    have hd0 : pat.drop i = (91 :: ((if neg then [33] else []) ++ [sv size (min (a1 % size) (b1 % size)), 45, sv size (max (a1 % size) (b1 % size)), sv size (c1 % size), 93])) ++ patText size rest := hd
    clear hd
    generalize sv size (min (a1 % size) (b1 % size)) = lo at *
    generalize sv size (max (a1 % size) (b1 % size)) = hh at *
    generalize sv size (c1 % size) = cc at *
    obtain ⟨ln1, ln2, ln3, ln4, ln5, ln6, ln7, ln8, ln9, ln10, ln11, ln12⟩ := safe_ne hlo
    obtain ⟨hn1, hn2, hn3, hn4, hn5, hn6, hn7, hn8, hn9, hn10, hn11, hn12⟩ := safe_ne hhi
    obtain ⟨cn1, cn2, cn3, cn4, cn5, cn6, cn7, cn8, cn9, cn10, cn11, cn12⟩ := safe_ne hcc
    obtain ⟨nn, pre, C0, SS, SP, bf, hnn, hSS⟩ := brF hd0
    have hnx := BrF.nx hd0
    have hpc2 : pcText size (.br neg a1 b1 c1) = [91] ++ SP ++ [93] := by rw [hpcT, bf.sp]; cases neg <;> rfl
    have hd8 : pat.drop ((i + 5 + nn) + 1) = patText size rest := bf.dr
    clear hd0 hpcT hlo hhi hcc
    have hx : pat[((i : Nat) : Int).toNat]? = some 91 := bf.x0
    have hxn : pat[((i : Int) + 1).toNat]? = some (if neg = true then 33 else lo) := by rw [show ((i : Int) + 1).toNat = i + 1 by lia]; exact hnx
    have hilt : i < pat.length := bf.il
    have hEn : (i + 5 + nn) < pat.length := bf.el
    have hnn1 : nn ≤ 1 := bf.n1
    have hq0 : pat[(((i + 1 + nn) : Nat) : Int).toNat]? = some lo := bf.q0
    have hc0 : C0 = pre ++ [lo] := bf.c0
    have hclen : C0.length ≤ 2 := bf.clen
    have hS1 : 1 ≤ SS.length := bf.len.1
    have hS5 : SS.length ≤ 5 := bf.len.2
    have hS2 : SS.length ≤ 1000 := by lia
    have g1 := ne_sign (x := 91) s42 (by decide)
    have g2 := ne_sign (x := 91) s63 (by decide)
    have g3' := eq_sign (c := 91) s91
    have g4 := ne_sign s33 ln4
    have g5 := ne_sign s93 ln5
    have g6 := eq_sign (c := 33) s33
    (try dsimp +zetaDelta only)
    revert hsz hdp hun X T hkp Xg Tg hgP hPL hV hL hS' hC57 hre hroom hpat hbR h57R h57b ab F3 htab off57 offR hall hin hrl mp ms mq ma mr mn mi N3 hle ln1 ln2 ln3 ln4 ln5 ln6 ln7 ln8 ln9 ln10 ln11 ln12 hn1 hn2 hn3 hn4 hn5 hn6 hn7 hn8 hn9 hn10 hn11 hn12 cn1 cn2 cn3 cn4 cn5 cn6 cn7 cn8 cn9 cn10 cn11 cn12 bf hnn hSS hnx hpc2 hd8 hx hxn hilt hEn hnn1 hq0 hc0 hclen hS1 hS5 hS2 g1 g2 g3' g4 g5 g6
    exact turn ps0 R b tk2 hz m₁ h3 tk3 g3 i done rv nr ps extra tp tq2 tn ti rest neg a1 b1 c1 lo hh cc nn pre C0 SS SP⟩
namespace T1
theorem ne : Nonempty ((Array Value) × (Addr) × (Addr) × (Nat) × (Heap) × (Str → Option Value) × (Heap) × (Nat) × (Array GenState) × (List It) × (List Value) × (Nat) × (Array Value) × (List (Addr × Obj)) × (Tok) × (Tok) × (Tok) × (Tok) × (List It) × (Nat) × (Nat) × (Nat) × (List Nat) × (List Nat)) := ⟨(Classical.ofNonempty, Classical.ofNonempty, Classical.ofNonempty, Classical.ofNonempty, Classical.ofNonempty, Classical.ofNonempty, Classical.ofNonempty, Classical.ofNonempty, Classical.ofNonempty, Classical.ofNonempty, Classical.ofNonempty, Classical.ofNonempty, Classical.ofNonempty, Classical.ofNonempty, Classical.ofNonempty, Classical.ofNonempty, Classical.ofNonempty, Classical.ofNonempty, Classical.ofNonempty, Classical.ofNonempty, Classical.ofNonempty, Classical.ofNonempty, Classical.ofNonempty, Classical.ofNonempty)⟩
noncomputable def κ : (Array Value) × (Addr) × (Addr) × (Nat) × (Heap) × (Str → Option Value) × (Heap) × (Nat) × (Array GenState) × (List It) × (List Value) × (Nat) × (Array Value) × (List (Addr × Obj)) × (Tok) × (Tok) × (Tok) × (Tok) × (List It) × (Nat) × (Nat) × (Nat) × (List Nat) × (List Nat) := pick ne fun c => ¬ ∀ i neg lo hh cc nn SS SP, pre1.1 (c.1) (c.2.1) (c.2.2.1) (c.2.2.2.1) (c.2.2.2.2.1) (c.2.2.2.2.2.1) (c.2.2.2.2.2.2.1) (c.2.2.2.2.2.2.2.1) (c.2.2.2.2.2.2.2.2.1) i (c.2.2.2.2.2.2.2.2.2.1) (c.2.2.2.2.2.2.2.2.2.2.1) (c.2.2.2.2.2.2.2.2.2.2.2.1) (c.2.2.2.2.2.2.2.2.2.2.2.2.1) (c.2.2.2.2.2.2.2.2.2.2.2.2.2.1) (c.2.2.2.2.2.2.2.2.2.2.2.2.2.2.1) (c.2.2.2.2.2.2.2.2.2.2.2.2.2.2.2.1) (c.2.2.2.2.2.2.2.2.2.2.2.2.2.2.2.2.1) (c.2.2.2.2.2.2.2.2.2.2.2.2.2.2.2.2.2.1) (c.2.2.2.2.2.2.2.2.2.2.2.2.2.2.2.2.2.2.1) neg (c.2.2.2.2.2.2.2.2.2.2.2.2.2.2.2.2.2.2.2.1) (c.2.2.2.2.2.2.2.2.2.2.2.2.2.2.2.2.2.2.2.2.1) (c.2.2.2.2.2.2.2.2.2.2.2.2.2.2.2.2.2.2.2.2.2.1) lo hh cc nn (c.2.2.2.2.2.2.2.2.2.2.2.2.2.2.2.2.2.2.2.2.2.2.1) (c.2.2.2.2.2.2.2.2.2.2.2.2.2.2.2.2.2.2.2.2.2.2.2) SS SP
noncomputable def ps0 : Array Value := κ.1
noncomputable def R : Addr := κ.2.1
noncomputable def b : Addr := κ.2.2.1
noncomputable def tk2 : Nat := κ.2.2.2.1
noncomputable def hz : Heap := κ.2.2.2.2.1
noncomputable def m₁ : Str → Option Value := κ.2.2.2.2.2.1
noncomputable def h3 : Heap := κ.2.2.2.2.2.2.1
noncomputable def tk3 : Nat := κ.2.2.2.2.2.2.2.1
noncomputable def g3 : Array GenState := κ.2.2.2.2.2.2.2.2.1
noncomputable def done : List It := κ.2.2.2.2.2.2.2.2.2.1
noncomputable def rv : List Value := κ.2.2.2.2.2.2.2.2.2.2.1
noncomputable def nr : Nat := κ.2.2.2.2.2.2.2.2.2.2.2.1
noncomputable def ps : Array Value := κ.2.2.2.2.2.2.2.2.2.2.2.2.1
noncomputable def extra : List (Addr × Obj) := κ.2.2.2.2.2.2.2.2.2.2.2.2.2.1
noncomputable def tp : Tok := κ.2.2.2.2.2.2.2.2.2.2.2.2.2.2.1
noncomputable def tq2 : Tok := κ.2.2.2.2.2.2.2.2.2.2.2.2.2.2.2.1
noncomputable def tn : Tok := κ.2.2.2.2.2.2.2.2.2.2.2.2.2.2.2.2.1
noncomputable def ti : Tok := κ.2.2.2.2.2.2.2.2.2.2.2.2.2.2.2.2.2.1
noncomputable def rest : List It := κ.2.2.2.2.2.2.2.2.2.2.2.2.2.2.2.2.2.2.1
noncomputable def a1 : Nat := κ.2.2.2.2.2.2.2.2.2.2.2.2.2.2.2.2.2.2.2.1
noncomputable def b1 : Nat := κ.2.2.2.2.2.2.2.2.2.2.2.2.2.2.2.2.2.2.2.2.1
noncomputable def c1 : Nat := κ.2.2.2.2.2.2.2.2.2.2.2.2.2.2.2.2.2.2.2.2.2.1
noncomputable def pre : List Nat := κ.2.2.2.2.2.2.2.2.2.2.2.2.2.2.2.2.2.2.2.2.2.2.1
noncomputable def C0 : List Nat := κ.2.2.2.2.2.2.2.2.2.2.2.2.2.2.2.2.2.2.2.2.2.2.2
theorem turn : ∀ i neg lo hh cc nn SS SP, pre1.1 ps0 R b tk2 hz m₁ h3 tk3 g3 i done rv nr ps extra tp tq2 tn ti rest neg a1 b1 c1 lo hh cc nn pre C0 SS SP := by
  intro i neg lo hh cc nn SS SP
  w_top off
  refine fillG ?_
  k_fill
  intro _ _
  intro hsz hdp hun X T hkp Xg Tg hgP hPL hV hL hS' hC57 hre hroom hpat hbR h57R h57b ab F3 htab off57 offR hall hin hrl mp ms mq ma mr mn mi N3 hle ln1 ln2 ln3 ln4 ln5 ln6 ln7 ln8 ln9 ln10 ln11 ln12 hn1 hn2 hn3 hn4 hn5 hn6 hn7 hn8 hn9 hn10 hn11 hn12 cn1 cn2 cn3 cn4 cn5 cn6 cn7 cn8 cn9 cn10 cn11 cn12 bf hnn hSS hnx hpc2 hd8 hx hxn hilt hEn hnn1 hq0 hc0 hclen hS1 hS5 hS2 g1 g2 g3' g4 g5 g6
  (try k_fold)
  k_steps
  unfold Stop
  (with_reducible rename Fr _ _ _ _ => Fx)
  (with_reducible rename News _ _ _ _ => Nx)
  refine stmt_cut (h₀ := g) (L := L) (PJz star b R pat ((i : Int) + 1) (i + 1 + nn) ((57, tabObj ps) :: (b, bnd R) :: (R, W.listOf (List.toArray rv) nr) :: extra)) ?_ ?_
  · clear hx hq0 g1 g2 g3' g5 hle hd8 hpc2
    cases neg with
    | false =>
      replace hxn : pat[((i : Int) + 1).toNat]? = some lo := hxn
      replace hnn : nn = 0 := hnn
      refine wpAny_If ?_
      k_steps
      all_goals first | (exfalso; lia) | skip
      (with_reducible rename Fr _ _ _ _ => Fz)
      (with_reducible rename News _ _ _ _ => Nz)
      exact CutE.mk Fz Nz ⟨⟨_, _, _, _, (by repeat (first | with_reducible assumption | with_reducible exact if_pos rfl | refine (if_neg (by decide)).trans ?_ | rfl)), (by repeat (first | with_reducible assumption | with_reducible exact if_pos rfl | refine (if_neg (by decide)).trans ?_ | rfl)), (by repeat (first | with_reducible assumption | with_reducible exact if_pos rfl | refine (if_neg (by decide)).trans ?_ | rfl)), (by repeat (first | with_reducible assumption | with_reducible exact if_pos rfl | refine (if_neg (by decide)).trans ?_ | rfl)), (by repeat (first | with_reducible assumption | with_reducible exact if_pos rfl | refine (if_neg (by decide)).trans ?_ | rfl)), (by repeat (first | with_reducible assumption | with_reducible exact if_pos rfl | refine (if_neg (by decide)).trans ?_ | rfl)), (by repeat (first | with_reducible assumption | with_reducible exact if_pos rfl | refine (if_neg (by decide)).trans ?_ | rfl))⟩, _, _, (by repeat (first | with_reducible assumption | with_reducible exact if_pos rfl | refine (if_neg (by decide)).trans ?_ | rfl)), by lia, rfl⟩
    | true =>
      replace hxn : pat[((i : Int) + 1).toNat]? = some 33 := hxn
      replace hnn : nn = 1 := hnn
      refine wpAny_If ?_
      k_steps
      all_goals first | (exfalso; lia) | skip
      (with_reducible rename Fr _ _ _ _ => Fz)
      (with_reducible rename News _ _ _ _ => Nz)
      exact CutE.mk Fz Nz ⟨⟨_, _, _, _, (by repeat (first | with_reducible assumption | with_reducible exact if_pos rfl | refine (if_neg (by decide)).trans ?_ | rfl)), (by repeat (first | with_reducible assumption | with_reducible exact if_pos rfl | refine (if_neg (by decide)).trans ?_ | rfl)), (by repeat (first | with_reducible assumption | with_reducible exact if_pos rfl | refine (if_neg (by decide)).trans ?_ | rfl)), (by repeat (first | with_reducible assumption | with_reducible exact if_pos rfl | refine (if_neg (by decide)).trans ?_ | rfl)), (by repeat (first | with_reducible assumption | with_reducible exact if_pos rfl | refine (if_neg (by decide)).trans ?_ | rfl)), (by repeat (first | with_reducible assumption | with_reducible exact if_pos rfl | refine (if_neg (by decide)).trans ?_ | rfl)), (by repeat (first | with_reducible assumption | with_reducible exact if_pos rfl | refine (if_neg (by decide)).trans ?_ | rfl))⟩, _, _, (by repeat (first | with_reducible assumption | with_reducible exact if_pos rfl | refine (if_neg (by decide)).trans ?_ | rfl)), by lia, rfl⟩
  intro m₂ news₂ h4 tk4 hq2 F4 N4
  (try k_fold)
  obtain ⟨⟨tp1, tq1, tn1, ti1, mp1, ms1, mq1, ma1, mr1, mn1, mi1⟩, tj1, jz, mj1, rfl, rfl⟩ := hq2
  clear Fx Nx mp ms mq ma mr mn mi
  k_steps
  unfold Stop
  (with_reducible rename Fr _ _ _ _ => Fx)
  (with_reducible rename News _ _ _ _ => Nx)
  refine my_whileP (JA star b R pat ((i : Int) + 1) (i + 1 + nn) (i + 5 + nn) ((57, tabObj ps) :: (b, bnd R) :: (R, W.listOf (List.toArray rv) nr) :: extra)) (PA star b R pat ((i : Int) + 1) (i + 5 + nn) ((57, tabObj ps) :: (b, bnd R) :: (R, W.listOf (List.toArray rv) nr) :: extra)) (n₀ := (i + 5 + nn) - (i + 1 + nn)) Fx Nx ?fa ?ta ?za
  case fa => exact ⟨⟨_, _, _, _, (by repeat (first | with_reducible assumption | with_reducible exact if_pos rfl | refine (if_neg (by decide)).trans ?_ | rfl)), (by repeat (first | with_reducible assumption | with_reducible exact if_pos rfl | refine (if_neg (by decide)).trans ?_ | rfl)), (by repeat (first | with_reducible assumption | with_reducible exact if_pos rfl | refine (if_neg (by decide)).trans ?_ | rfl)), (by repeat (first | with_reducible assumption | with_reducible exact if_pos rfl | refine (if_neg (by decide)).trans ?_ | rfl)), (by repeat (first | with_reducible assumption | with_reducible exact if_pos rfl | refine (if_neg (by decide)).trans ?_ | rfl)), (by repeat (first | with_reducible assumption | with_reducible exact if_pos rfl | refine (if_neg (by decide)).trans ?_ | rfl)), (by repeat (first | with_reducible assumption | with_reducible exact if_pos rfl | refine (if_neg (by decide)).trans ?_ | rfl))⟩, (i + 1 + nn), _, (by repeat (first | with_reducible assumption | with_reducible exact if_pos rfl | refine (if_neg (by decide)).trans ?_ | rfl)), Nat.le_refl _, by lia, rfl, rfl⟩
  case ta =>
    intro k m₃ news₃ h5 tk5 hq3 F5 N5
    (try k_fold)
    obtain ⟨⟨tp2, tq2, tn2, ti2, mp2, ms2, mq2, ma2, mr2, mn2, mi2⟩, j, tj, mj, hj1, hj2, rfl, rfl⟩ := hq3
    (try clear F4)
    (try clear N4)
    clear Fx Nx mp1 ms1 mq1 ma1 mr1 mn1 mi1 mj1
    have hjl : j < pat.length := by lia
    rcases Nat.lt_or_ge j (i + 5 + nn) with hj | hj
    · obtain ⟨y, hy, hy93⟩ : ∃ y, pat[j]? = some y ∧ y ≠ 93 := by
        rcases (by lia : j = (i + 1 + nn) ∨ j = (i + 2 + nn) ∨ j = (i + 3 + nn) ∨ j = (i + 4 + nn)) with rfl | rfl | rfl | rfl
        · exact ⟨_, bf.q0, ln5⟩
        · exact ⟨_, bf.q1, by decide⟩
        · exact ⟨_, bf.q2, hn5⟩
        · exact ⟨_, bf.q3, cn5⟩
      replace hy : pat[((j : Nat) : Int).toNat]? = some y := hy
      have gy := ne_sign s93 hy93
      have gy1 : (txt [y] != Str.ofString "]") = true := by rw [bne, gy]; rfl
      have gy2 : (!(txt [y] == Str.ofString "]")) = true := by rw [gy]; rfl
      k_steps
      all_goals first | (exfalso; lia) | skip
      (with_reducible rename Fr _ _ _ _ => Fz)
      (with_reducible rename News _ _ _ _ => Nz)
      unfold WPost
      exact WEnd.mk (n' := (i + 5 + nn) - (j + 1)) Fz Nz (Nat.sub_lt_sub_left hj (Nat.lt_succ_self _)) ⟨⟨_, _, _, _, (by repeat (first | with_reducible assumption | with_reducible exact if_pos rfl | refine (if_neg (by decide)).trans ?_ | rfl)), (by repeat (first | with_reducible assumption | with_reducible exact if_pos rfl | refine (if_neg (by decide)).trans ?_ | rfl)), (by repeat (first | with_reducible assumption | with_reducible exact if_pos rfl | refine (if_neg (by decide)).trans ?_ | rfl)), (by repeat (first | with_reducible assumption | with_reducible exact if_pos rfl | refine (if_neg (by decide)).trans ?_ | rfl)), (by repeat (first | with_reducible assumption | with_reducible exact if_pos rfl | refine (if_neg (by decide)).trans ?_ | rfl)), (by repeat (first | with_reducible assumption | with_reducible exact if_pos rfl | refine (if_neg (by decide)).trans ?_ | rfl)), (by repeat (first | with_reducible assumption | with_reducible exact if_pos rfl | refine (if_neg (by decide)).trans ?_ | rfl))⟩, j + 1, _, (by repeat (first | with_reducible assumption | with_reducible exact if_pos rfl | refine (if_neg (by decide)).trans ?_ | rfl)), by lia, by lia, rfl, rfl⟩
    · obtain rfl : j = (i + 5 + nn) := by lia
      have hy : pat[(((i + 5 + nn) : Nat) : Int).toNat]? = some 93 := bf.q4
      have gy := eq_sign (c := 93) s93
      k_steps
      (with_reducible rename Fr _ _ _ _ => Fz)
      (with_reducible rename News _ _ _ _ => Nz)
      exact XEnd.mk Fz Nz ⟨⟨tp2, tq2, tn2, ti2, mp2, ms2, mq2, ma2, mr2, mn2, mi2⟩, tj, mj, rfl⟩
  case za =>
  intro m₃ news₃ h5 tk5 hq4 F5 N5
  (try k_fold)
  obtain ⟨⟨tp2, tq2, tn2, ti2, mp2, ms2, mq2, ma2, mr2, mn2, mi2⟩, tj, mj, rfl⟩ := hq4
  (try clear F4)
  (try clear N4)
  clear Fx Nx mp1 ms1 mq1 ma1 mr1 mn1 mi1 mj1
  k_steps
  unfold Stop
  refine slice_ss (s := ⟨_, _, _, _, _⟩) F5 N5 bf.sS (by lia) ?_
  (try clear F5)
  (try clear N5)
  intro h6 t6 tk6 F6 N6
  k_steps
  unfold Stop
  refine notin_has s45 bf.has ?_
  k_steps
  unfold Stop
  (with_reducible rename Fr _ _ _ _ => Fx)
  (with_reducible rename News _ _ _ _ => Nx)
  refine new_first2 Nx ?_
  intro D hD
  subst hD
  (repeat (with_reducible rename _ ∧ _ => qq; have zq1 := And.left qq; have zq2 := And.right qq; clear qq))
  have nDR : @Ne Nat D R := by lia
  have nDb : @Ne Nat D b := by lia
  have n57D : @Ne Nat 57 D := by lia
  have offD : ∀ p ∈ extra, p.1 ≠ D := lt_off (by assumption)
  refine stmt_cut (h₀ := g) (L := L) (PKz star b R D pat ((i : Int) + 1) ((i : Int) + 2 + nn) (i + 5 + nn) ((57, tabObj ps) :: (b, bnd R) :: (R, W.listOf (List.toArray rv) nr) :: extra)) ?_ ?_
  · clear hx hq0 g1 g2 g3' g5 hle hd8 hpc2
    cases neg with
    | false =>
      replace hxn : pat[((i : Int) + 1).toNat]? = some lo := hxn
      replace hnn : nn = 0 := hnn
      refine wpAny_Assign_Name ?_
      k_steps
      all_goals first | (exfalso; lia) | skip
      (with_reducible rename Fr _ _ _ _ => Fz)
      (with_reducible rename News _ _ _ _ => Nz)
      exact CutE.mk Fz Nz ⟨⟨_, _, _, _, (by repeat (first | with_reducible assumption | with_reducible exact if_pos rfl | refine (if_neg (by decide)).trans ?_ | rfl)), (by repeat (first | with_reducible assumption | with_reducible exact if_pos rfl | refine (if_neg (by decide)).trans ?_ | rfl)), (by repeat (first | with_reducible assumption | with_reducible exact if_pos rfl | refine (if_neg (by decide)).trans ?_ | rfl)), (by repeat (first | with_reducible assumption | with_reducible exact if_pos rfl | refine (if_neg (by decide)).trans ?_ | rfl)), (by repeat (first | with_reducible assumption | with_reducible exact if_pos rfl | refine (if_neg (by decide)).trans ?_ | rfl)), (by repeat (first | with_reducible assumption | with_reducible exact if_pos rfl | refine (if_neg (by decide)).trans ?_ | rfl)), (by repeat (first | with_reducible assumption | with_reducible exact if_pos rfl | refine (if_neg (by decide)).trans ?_ | rfl))⟩, _, _, _, _, (by repeat (first | with_reducible assumption | with_reducible exact if_pos rfl | refine (if_neg (by decide)).trans ?_ | rfl)), (by repeat (first | with_reducible assumption | with_reducible exact if_pos rfl | refine (if_neg (by decide)).trans ?_ | rfl)), (by repeat (first | with_reducible assumption | with_reducible exact if_pos rfl | refine (if_neg (by decide)).trans ?_ | rfl)), by lia, rfl⟩
    | true =>
      replace hxn : pat[((i : Int) + 1).toNat]? = some 33 := hxn
      replace hnn : nn = 1 := hnn
      refine wpAny_Assign_Name ?_
      k_steps
      all_goals first | (exfalso; lia) | skip
      (with_reducible rename Fr _ _ _ _ => Fz)
      (with_reducible rename News _ _ _ _ => Nz)
      exact CutE.mk Fz Nz ⟨⟨_, _, _, _, (by repeat (first | with_reducible assumption | with_reducible exact if_pos rfl | refine (if_neg (by decide)).trans ?_ | rfl)), (by repeat (first | with_reducible assumption | with_reducible exact if_pos rfl | refine (if_neg (by decide)).trans ?_ | rfl)), (by repeat (first | with_reducible assumption | with_reducible exact if_pos rfl | refine (if_neg (by decide)).trans ?_ | rfl)), (by repeat (first | with_reducible assumption | with_reducible exact if_pos rfl | refine (if_neg (by decide)).trans ?_ | rfl)), (by repeat (first | with_reducible assumption | with_reducible exact if_pos rfl | refine (if_neg (by decide)).trans ?_ | rfl)), (by repeat (first | with_reducible assumption | with_reducible exact if_pos rfl | refine (if_neg (by decide)).trans ?_ | rfl)), (by repeat (first | with_reducible assumption | with_reducible exact if_pos rfl | refine (if_neg (by decide)).trans ?_ | rfl))⟩, _, _, _, _, (by repeat (first | with_reducible assumption | with_reducible exact if_pos rfl | refine (if_neg (by decide)).trans ?_ | rfl)), (by repeat (first | with_reducible assumption | with_reducible exact if_pos rfl | refine (if_neg (by decide)).trans ?_ | rfl)), (by repeat (first | with_reducible assumption | with_reducible exact if_pos rfl | refine (if_neg (by decide)).trans ?_ | rfl)), by lia, rfl⟩
  intro m₄ news₄ h7 tk7 hq5 F7 N7
  (try k_fold)
  obtain ⟨⟨tp3, tq3, tn3, ti3, mp3, ms3, mq3, ma3, mr3, mn3, mi3⟩, nc0, tj3, tk3', kz, mj3, mc3, mk3, rfl, rfl⟩ := hq5
  clear Fx Nx mp2 ms2 mq2 ma2 mr2 mn2 mi2 mj
  k_steps
  unfold Stop
  (with_reducible rename Fr _ _ _ _ => Fx)
  (with_reducible rename News _ _ _ _ => Nx)
  refine my_whileP (JC star b R D pat ((i : Int) + 1) ((i : Int) + 2 + nn) (i + 2 + nn) (i + 5 + nn) C0 ((57, tabObj ps) :: (b, bnd R) :: (R, W.listOf (List.toArray rv) nr) :: extra)) (PC star b R D pat (i + 2 + nn) (i + 5 + nn) C0 ((57, tabObj ps) :: (b, bnd R) :: (R, W.listOf (List.toArray rv) nr) :: extra)) (n₀ := 1) Fx Nx ?fb ?tb ?zb
  case fb => exact ⟨((i : Int) + 1), (i : Int) + 2 + nn, [], nc0, _, _, ⟨_, _, _, _, (by repeat (first | with_reducible assumption | with_reducible exact if_pos rfl | refine (if_neg (by decide)).trans ?_ | rfl)), (by repeat (first | with_reducible assumption | with_reducible exact if_pos rfl | refine (if_neg (by decide)).trans ?_ | rfl)), (by repeat (first | with_reducible assumption | with_reducible exact if_pos rfl | refine (if_neg (by decide)).trans ?_ | rfl)), (by repeat (first | with_reducible assumption | with_reducible exact if_pos rfl | refine (if_neg (by decide)).trans ?_ | rfl)), (by repeat (first | with_reducible assumption | with_reducible exact if_pos rfl | refine (if_neg (by decide)).trans ?_ | rfl)), (by repeat (first | with_reducible assumption | with_reducible exact if_pos rfl | refine (if_neg (by decide)).trans ?_ | rfl)), (by repeat (first | with_reducible assumption | with_reducible exact if_pos rfl | refine (if_neg (by decide)).trans ?_ | rfl))⟩, (by repeat (first | with_reducible assumption | with_reducible exact if_pos rfl | refine (if_neg (by decide)).trans ?_ | rfl)), (by repeat (first | with_reducible assumption | with_reducible exact if_pos rfl | refine (if_neg (by decide)).trans ?_ | rfl)), (by repeat (first | with_reducible assumption | with_reducible exact if_pos rfl | refine (if_neg (by decide)).trans ?_ | rfl)), rfl, .inl ⟨rfl, rfl, rfl, rfl⟩⟩
  case tb =>
    intro k m₅ news₅ h8 tk8 hq6 F8 N8
    (try k_fold)
    obtain ⟨i2, k2, vals, nc, tj4, tk4', ⟨tp4, tq4, tn4, ti4, mp4, ms4, mq4, ma4, mr4, mn4, mi4⟩, mj4, mk4, mc4, rfl, hcase⟩ := hq6
    (try clear F7)
    (try clear N7)
    clear Fx Nx mp3 ms3 mq3 ma3 mr3 mn3 mi3 mj3 mc3 mk3
    rcases hcase with ⟨rfl, rfl, rfl, rfl⟩ | ⟨rfl, rfl, rfl, t0, rfl⟩
    · k_steps
      unfold Stop
      rw [s45]
      refine find_hit (k := (i + 2 + nn)) (n := (i + 5 + nn)) (by lia) rfl (by lia) (by lia) bf.q1 ?_
      intro tk9 t9
      k_steps
      all_goals first | (exfalso; lia) | skip
      unfold Stop
      (with_reducible rename Fr _ _ _ _ => Fz)
      (with_reducible rename News _ _ _ _ => Nz)
      refine slice_ss (s := ⟨_, _, _, _, _⟩) Fz Nz bf.sC (by lia) ?_
      clear Fz Nz
      intro h9 t9' tk9' F9 N9
      k_steps
      unfold Stop
      (with_reducible rename Fr _ _ _ _ => Fa)
      (with_reducible rename News _ _ _ _ => Na)
      refine append_own Fa Na (off_cons n57D (off_cons (Ne.symm nDb) (off_cons (Ne.symm nDR) offD))) (by decide) ?_
      clear Fa Na
      intro h10 F10 N10
      k_steps
      (with_reducible rename Fr _ _ _ _ => Fz)
      (with_reducible rename News _ _ _ _ => Nz)
      unfold WPost
      exact WEnd.mk (n' := 0) Fz Nz (by lia) ⟨(((i + 2 + nn) : Nat) : Int) + 1, (((i + 2 + nn) : Nat) : Int) + 3, _, _, _, _, ⟨_, _, _, _, (by repeat (first | with_reducible assumption | with_reducible exact if_pos rfl | refine (if_neg (by decide)).trans ?_ | rfl)), (by repeat (first | with_reducible assumption | with_reducible exact if_pos rfl | refine (if_neg (by decide)).trans ?_ | rfl)), (by repeat (first | with_reducible assumption | with_reducible exact if_pos rfl | refine (if_neg (by decide)).trans ?_ | rfl)), (by repeat (first | with_reducible assumption | with_reducible exact if_pos rfl | refine (if_neg (by decide)).trans ?_ | rfl)), (by repeat (first | with_reducible assumption | with_reducible exact if_pos rfl | refine (if_neg (by decide)).trans ?_ | rfl)), (by repeat (first | with_reducible assumption | with_reducible exact if_pos rfl | refine (if_neg (by decide)).trans ?_ | rfl)), (by repeat (first | with_reducible assumption | with_reducible exact if_pos rfl | refine (if_neg (by decide)).trans ?_ | rfl))⟩, (by repeat (first | with_reducible assumption | with_reducible exact if_pos rfl | refine (if_neg (by decide)).trans ?_ | rfl)), (by repeat (first | with_reducible assumption | with_reducible exact if_pos rfl | refine (if_neg (by decide)).trans ?_ | rfl)), (by repeat (first | with_reducible assumption | with_reducible exact if_pos rfl | refine (if_neg (by decide)).trans ?_ | rfl)), rfl, .inr ⟨rfl, rfl, rfl, _, rfl⟩⟩
    · k_steps
      unfold Stop
      rw [s45]
      refine find_out (k := (i + 2 + nn) + 3) (n := (i + 5 + nn)) (by lia) rfl (by lia) (by lia) ?_
      intro tk9 t9
      k_steps
      all_goals first | (exfalso; lia) | skip
      (with_reducible rename Fr _ _ _ _ => Fz)
      (with_reducible rename News _ _ _ _ => Nz)
      (try dsimp only)
      (try dsimp only [WPost, XPost])
      exact (XEnd.mk (P := PC star b R D pat (i + 2 + nn) (i + 5 + nn) C0 ((57, tabObj ps) :: (b, bnd R) :: (R, W.listOf (List.toArray rv) nr) :: extra)) Fz Nz ⟨_, _, _, ⟨_, _, _, _, (by repeat (first | with_reducible assumption | with_reducible exact if_pos rfl | refine (if_neg (by decide)).trans ?_ | rfl)), (by repeat (first | with_reducible assumption | with_reducible exact if_pos rfl | refine (if_neg (by decide)).trans ?_ | rfl)), (by repeat (first | with_reducible assumption | with_reducible exact if_pos rfl | refine (if_neg (by decide)).trans ?_ | rfl)), (by repeat (first | with_reducible assumption | with_reducible exact if_pos rfl | refine (if_neg (by decide)).trans ?_ | rfl)), (by repeat (first | with_reducible assumption | with_reducible exact if_pos rfl | refine (if_neg (by decide)).trans ?_ | rfl)), (by repeat (first | with_reducible assumption | with_reducible exact if_pos rfl | refine (if_neg (by decide)).trans ?_ | rfl)), (by repeat (first | with_reducible assumption | with_reducible exact if_pos rfl | refine (if_neg (by decide)).trans ?_ | rfl))⟩, (by repeat (first | with_reducible assumption | with_reducible exact if_pos rfl | refine (if_neg (by decide)).trans ?_ | rfl)), (by repeat (first | with_reducible assumption | with_reducible exact if_pos rfl | refine (if_neg (by decide)).trans ?_ | rfl)), rfl⟩)
  case zb =>
  intro m₅ news₅ h8 tk8 hq7 F8 N8
  (try k_fold)
  obtain ⟨nc, tj4, t0, ⟨tp4, tq4, tn4, ti4, mp4, ms4, mq4, ma4, mr4, mn4, mi4⟩, mj4, mc4, rfl⟩ := hq7
  (try clear F7)
  (try clear N7)
  clear Fx Nx mp3 ms3 mq3 ma3 mr3 mn3 mi3 mj3 mc3 mk3
  k_steps
  unfold Stop
  refine slice_ss (s := ⟨_, _, _, _, _⟩) F8 N8 bf.sH (by lia) ?_
  (try clear F8)
  (try clear N8)
  intro h9 t9 tk9 F9 N9
  k_steps
  repeat' ((first | ((with_reducible refine Stop.tst ?_); first | (refine truthy_ne (by assumption) (by assumption) ?_; intro _; (try dsimp only)) | (refine truthy_txt (by simp only [List.length_cons, List.length_nil]; lia) ?_; intro _; (try dsimp only)))); (try k_steps))
  unfold Stop
  (with_reducible rename Fr _ _ _ _ => Fa)
  (with_reducible rename News _ _ _ _ => Na)
  refine append_own Fa Na (off_cons n57D (off_cons (Ne.symm nDb) (off_cons (Ne.symm nDR) offD))) (by simp) ?_
  clear Fa Na
  intro h10 F10 N10
  have e9 : (([Value.str (txt C0) t0] ++ [Value.str (txt [hh, cc]) t9]).toArray : Array Value) = #[Value.str (txt C0) t0, Value.str (txt [hh, cc]) t9] := rfl
  rw [e9] at N10
  have hz0 : ([hh, cc] : List Nat)[(0 : Int).toNat]? = some hh := rfl
  k_steps
  unfold Stop
  refine for_one (h₀ := g) (L := L) (PF star b R D pat (i + 2 + nn) (i + 5 + nn) C0 [hh, cc] ((57, tabObj ps) :: (b, bnd R) :: (R, W.listOf (List.toArray rv) nr) :: extra)) (by rfl) (by intro _; rfl) rfl (by rfl) (by rfl) ?_
  k_steps
  unfold Hold
  refine ⟨_, _, _, _, _, _, _, _, _, rfl, by assumption, by lia, rfl, rfl, by assumption, by assumption, ?_, ?_⟩
  · intro h11 tk11 tv I F11 N11 offI11
    have hk1 : ([Value.str (txt C0) t0, Value.str (txt [hh, cc]) t9] : List Value)[((1 : Int) - 1).toNat]? = some (Value.str (txt C0) t0) := rfl
    have hk2 : ([Value.str (txt C0) t0, Value.str (txt [hh, cc]) t9] : List Value)[(1 : Int).toNat]? = some (Value.str (txt [hh, cc]) t9) := rfl
    k_steps
    unfold Stop
    refine item_atZ (by first | (with_reducible assumption) | exact News.isList (by with_reducible assumption) (by repeat (first | exact List.Mem.head _ | refine List.Mem.tail _ ?_))) hk1 (by decide) (by decide) ?_ (by with_unfolding_all rfl)
    k_steps
    repeat' ((first | ((with_reducible refine Stop.sbs ?_); first | ((with_reducible refine item_sN (by with_reducible assumption) (by lia) ?_); intro _ _) | ((with_reducible refine item_sZ (by with_reducible assumption) (by lia) (by simp) ?_); intro _ _))); (try k_steps))
    unfold Stop
    refine item_atZ (by first | (with_reducible assumption) | exact News.isList (by with_reducible assumption) (by repeat (first | exact List.Mem.head _ | refine List.Mem.tail _ ?_))) hk2 (by decide) (by decide) ?_ (by with_unfolding_all rfl)
    k_steps
    repeat' ((first | ((with_reducible refine Stop.sbs ?_); first | ((with_reducible refine item_sN (by with_reducible assumption) (by lia) ?_); intro _ _) | ((with_reducible refine item_sZ (by with_reducible assumption) (by lia) (by simp) ?_); intro _ _))); (try k_steps))
    unfold Stop
    refine gt_no hle ?_
    k_steps
    (with_reducible rename Fr _ _ _ _ => Fz)
    (with_reducible rename News _ _ _ _ => Nz)
    exact OPost.mk Fz Nz (by repeat (first | exact List.Mem.head _ | refine List.Mem.tail _ ?_)) (fun p hp => by repeat (first | exact hp | refine List.Mem.tail _ ?_)) offI11 ⟨_, _, _, _, ⟨_, _, _, _, (by repeat (first | with_reducible assumption | with_reducible exact if_pos rfl | refine (if_neg (by decide)).trans ?_ | rfl)), (by repeat (first | with_reducible assumption | with_reducible exact if_pos rfl | refine (if_neg (by decide)).trans ?_ | rfl)), (by repeat (first | with_reducible assumption | with_reducible exact if_pos rfl | refine (if_neg (by decide)).trans ?_ | rfl)), (by repeat (first | with_reducible assumption | with_reducible exact if_pos rfl | refine (if_neg (by decide)).trans ?_ | rfl)), (by repeat (first | with_reducible assumption | with_reducible exact if_pos rfl | refine (if_neg (by decide)).trans ?_ | rfl)), (by repeat (first | with_reducible assumption | with_reducible exact if_pos rfl | refine (if_neg (by decide)).trans ?_ | rfl)), (by repeat (first | with_reducible assumption | with_reducible exact if_pos rfl | refine (if_neg (by decide)).trans ?_ | rfl))⟩, (by repeat (first | with_reducible assumption | with_reducible exact if_pos rfl | refine (if_neg (by decide)).trans ?_ | rfl)), (by repeat (first | with_reducible assumption | with_reducible exact if_pos rfl | refine (if_neg (by decide)).trans ?_ | rfl)), rfl⟩
  intro m₆ news₆ h12 tk12 hq8 F12 N12
  (try k_fold)
  obtain ⟨nc4, tj5, t04, t14, ⟨tp5, tq5, tn5, ti5, mp5, ms5, mq5, ma5, mr5, mn5, mi5⟩, mj5, mc5, rfl⟩ := hq8
  (try clear F10)
  (try clear N10)
  (try clear F9)
  (try clear N9)
  clear mp4 ms4 mq4 ma4 mr4 mn4 mi4 mj4 mc4
  k_steps
  unfold Stop
  (with_reducible rename Fr _ _ _ _ => Fg)
  (with_reducible rename News _ _ _ _ => Ng)
  refine gen_eval (P := 57) (c := 61) (lpos := lp) (qual := lq) (qs := [C0, [hh, cc]]) (rest0 := extra) Fg (nrot2 Ng) Tg hC57 htab (off_cons (Ne.symm n57D) (off_cons h57b (off_cons (Ne.symm h57R) off57))) rfl rfl hroom rfl rfl (by decide) rfl rfl rfl (by intro _; rfl) (News.isList Ng (List.Mem.head _)) (All2.snoc (All2.snoc All2.nil ⟨_, rfl⟩) ⟨_, rfl⟩ : StrsAre ([] ++ [_] ++ [_]) ([] ++ [_] ++ [_])) (by simp) (fun Q' q' => ld Fg mc5 q') ?elt ?_
  case elt =>
    intro code Cf A' E' i2 q2 t2 s2 m2 hA hqi hn2 hmx
    have hb92 : 92 ∉ q2 := by
      rcases i2 with _ | _ | i2
      · cases hqi; intro hm; rcases bf.cmem _ hm with e | e; exact absurd e (by decide); exact ln8 e.symm
      · cases hqi; simp only [List.mem_cons, List.not_mem_nil, or_false, not_or]; exact ⟨fun e => hn8 e.symm, fun e => cn8 e.symm⟩
      · simp at hqi
    have hb45 : 45 ∉ q2 := by
      rcases i2 with _ | _ | i2
      · cases hqi; intro hm; rcases bf.cmem _ hm with e | e; exact absurd e (by decide); exact ln6 e.symm
      · cases hqi; simp only [List.mem_cons, List.not_mem_nil, or_false, not_or]; exact ⟨fun e => hn6 e.symm, fun e => cn6 e.symm⟩
      · simp at hqi
    clear Fg Ng
    generalize hge : genEnv _ _ _ _ _ _ = ge
    have hgk : ge.scope.kind = .function := by rw [← hge]; rfl
    have hgl : ge.kindOf (Str.ofString "s") = some .local := by rw [← hge]; rfl
    have hgn : s2.heap.Ns ge.locals m2 := by rw [← hge]; exact hn2
    clear hge hn2
    refine wpAny_mono (Q := fun (y : Value) (s₃ : Shared) => Hold ((∃ t', y = Value.str (txt q2) t') ∧ Keeps s2 s₃)) ?_ (fun _ _ h => h) (fun _ _ h => h)
    k_steps
    repeat' ((first | ((with_reducible refine Stop.bui "str.replace" ?_); with_reducible first | refine replace_noY s92 (by assumption) ?_ | refine replace_noY s45 (by assumption) ?_) | ((with_reducible refine Stop.nm ?_); refine wpAny_Name (wpAny_loadName_local (by assumption) (by assumption) (by assumption) (by assumption) ?_) (by decide))); (try k_steps))
    exact ⟨⟨_, rfl⟩, _, _, rfl, fun _ _ e => e⟩
  clear Fg Ng
  intro ga h13 tk13 gs13 ps13 F13 N13 V13 hjoin
  k_steps
  unfold Stop
  rw [s45]
  refine hjoin [45] _ _ _ (by simp; lia) ?_
  clear hjoin F13 N13
  intro h14 g14 tk14 t14' F14 N14 ab14
  rw [show joinL [45] [C0, [hh, cc]] = SS from bf.jn]
  k_steps
  repeat' ((first | ((with_reducible refine Stop.gm ?_); refine getMethod_re (ReAt.keeps (by assumption) (kp_of (by assumption))) ?_)); (try k_steps))
  unfold Stop
  refine kla_eval rfl ?_
  (with_reducible rename Fr _ _ _ _ => Fa)
  (with_reducible rename News _ _ _ _ => Na)
  refine lam_stepL (P := 57) (rest0 := extra) Fa Na Tg hC57 rfl V13 (off_cons (Ne.symm n57D) (off_cons h57b (off_cons (Ne.symm h57R) off57))) rfl ?_
  clear Fa Na
  intro f c' ctv h15 tk15 xs ps14 F15 N15 lf lxs lxf V15
  have off57' : ∀ p ∈ extra ++ xs, p.1 ≠ 57 := off_app off57 fun p hp => Nat.ne_of_gt (lxs _ (.head _) p hp)
  have offR' : ∀ p ∈ extra ++ xs, p.1 ≠ R := off_app offR fun p hp => Nat.ne_of_gt (lxs _ (.tail _ (.tail _ (.tail _ (.head _)))) p hp)
  k_steps
  unfold Stop
  (with_reducible rename Fr _ _ _ _ => Fb)
  (with_reducible rename News _ _ _ _ => Nb)
  refine re_sub (hre.keeps (kp_of Fb)) ⟨_, (Nb _ (.head _)).1, rfl⟩ (by rw [txt_size]; exact hS1) (by rw [txt_size]; lia) (no_bad (by
    intro y hy
    rcases bf.mem y hy with rfl | rfl | rfl | rfl | rfl
    all_goals first | decide +kernel | exact rbad_no _ (by assumption) (by assumption) (by assumption) (by assumption))) ?_
  intro h16 tk16 t16 kp16
  have F16 := fr_after Fb kp16
  have N16 : News g L h16 ((57, tabObj ps14) :: (b, bnd R) :: (R, W.listOf (List.toArray rv) nr) :: (extra ++ xs)) := fun q hq => (fun z => ⟨kp16 _ _ (Nb q z).1, (Nb q z).2⟩) (sub_cons (by repeat (first | exact List.Mem.head _ | refine List.Mem.tail _ ?_)) (sub_cons (by repeat (first | exact List.Mem.head _ | refine List.Mem.tail _ ?_)) (sub_cons (by repeat (first | exact List.Mem.head _ | refine List.Mem.tail _ ?_)) (fun p hp => by repeat (first | exact hp | refine List.Mem.tail _ ?_)))) q hq)
  clear Fb Nb
  have gS : (txt SS == Str.ofString "!") = false := bf.one
  k_steps
  repeat' ((first | ((with_reducible refine Stop.tst ?_); first | (refine truthy_ne (by assumption) (by assumption) ?_; intro _; (try dsimp only)) | (refine truthy_txt (by simp only [List.length_cons, List.length_nil]; lia) ?_; intro _; (try dsimp only)))); (try k_steps))
  unfold Stop
  (with_reducible rename Fr _ _ _ _ => Fx)
  (with_reducible rename News _ _ _ _ => Nx)
  refine stmt_cut (h₀ := g) (L := L) (PSz star b R pat (((i + 5 + nn) + 1 : Nat) : Int) SP ((57, tabObj ps14) :: (b, bnd R) :: (R, W.listOf (List.toArray rv) nr) :: (extra ++ xs))) ?_ ?_
  · have hSPe := bf.sp
    clear hx hq0 g1 g2 g3' g5 hle hd8 hpc2
    cases neg with
    | false =>
      replace hSS : SS = [lo, 45, hh, cc] := hSS
      replace hSPe : SP = [lo, 45, hh, cc] := hSPe
      clear bf
      subst hSS hSPe
      have hS0 : ([lo, 45, hh, cc] : List Nat)[(0 : Int).toNat]? = some lo := rfl
      have hI0 : Txt.item (txt [lo, 45, hh, cc]) 0 = txt [lo] := item_txt (k := 0) rfl
      have gq1 : (Txt.item (txt [lo, 45, hh, cc]) 0 == Str.ofString "!") = false := by rw [hI0]; exact ne_sign s33 ln4
      have gq2 : ([Str.ofString "^", Str.ofString "["].any fun x => x == Txt.item (txt [lo, 45, hh, cc]) 0) = false := by
        rw [hI0, s94, s91]
        show ((txt [94] == txt [lo]) || ((txt [91] == txt [lo]) || false)) = false
        rw [txt_beq, txt_beq, decide_eq_false (fun e => ln7 (List.cons.inj e).1.symm), decide_eq_false (fun e => ln3 (List.cons.inj e).1.symm)]; rfl
      have gq3 : ([Str.ofString "^", Str.ofString "["].any fun x => x == txt [lo]) = false := by rw [← hI0]; exact gq2
      refine wpAny_If ?_
      k_steps
      repeat' ((first | ((with_reducible refine Stop.sbs ?_); first | ((with_reducible refine item_sN (by with_reducible assumption) (by lia) ?_); intro _ _) | ((with_reducible refine item_sZ (by with_reducible assumption) (by lia) (by simp) ?_); intro _ _))); (try k_steps))
      (with_reducible rename Fr _ _ _ _ => Fz)
      (with_reducible rename News _ _ _ _ => Nz)
      exact CutE.mk Fz (fun q hq => Nz q (sub_cons (by repeat (first | exact List.Mem.head _ | refine List.Mem.tail _ ?_)) (sub_cons (by repeat (first | exact List.Mem.head _ | refine List.Mem.tail _ ?_)) (sub_cons (by repeat (first | exact List.Mem.head _ | refine List.Mem.tail _ ?_)) (fun p hp => by repeat (first | exact hp | refine List.Mem.tail _ ?_)))) q hq)) ⟨⟨_, _, _, _, (by repeat (first | with_reducible assumption | with_reducible exact if_pos rfl | refine (if_neg (by decide)).trans ?_ | rfl)), (by repeat (first | with_reducible assumption | with_reducible exact if_pos rfl | refine (if_neg (by decide)).trans ?_ | rfl)), (by repeat (first | with_reducible assumption | with_reducible exact if_pos rfl | refine (if_neg (by decide)).trans ?_ | rfl)), (by repeat (first | with_reducible assumption | with_reducible exact if_pos rfl | refine (if_neg (by decide)).trans ?_ | rfl)), (by repeat (first | with_reducible assumption | with_reducible exact if_pos rfl | refine (if_neg (by decide)).trans ?_ | rfl)), (by repeat (first | with_reducible assumption | with_reducible exact if_pos rfl | refine (if_neg (by decide)).trans ?_ | rfl)), (by repeat (first | with_reducible assumption | with_reducible exact if_pos rfl | refine (if_neg (by decide)).trans ?_ | rfl))⟩, _, _, (by repeat (first | with_reducible assumption | with_reducible exact if_pos rfl | refine (if_neg (by decide)).trans ?_ | rfl)), rfl, rfl⟩
    | true =>
      replace hSS : SS = [33, lo, 45, hh, cc] := hSS
      replace hSPe : SP = [94, lo, 45, hh, cc] := hSPe
      clear bf
      subst hSS hSPe
      have hS0 : ([33, lo, 45, hh, cc] : List Nat)[(0 : Int).toNat]? = some 33 := rfl
      have hI0 : Txt.item (txt [33, lo, 45, hh, cc]) 0 = txt [33] := item_txt (k := 0) rfl
      have gq1 : (Txt.item (txt [33, lo, 45, hh, cc]) 0 == Str.ofString "!") = true := by rw [hI0]; exact eq_sign s33
      have hs4 : Txt.slice (txt [33, lo, 45, hh, cc]) (some 1) none = txt [lo, 45, hh, cc] := slice_from _ 1
      refine wpAny_If ?_
      k_steps
      repeat' ((first | ((with_reducible refine Stop.sbs ?_); first | ((with_reducible refine item_sN (by with_reducible assumption) (by lia) ?_); intro _ _) | ((with_reducible refine item_sZ (by with_reducible assumption) (by lia) (by simp) ?_); intro _ _))); (try k_steps))
      unfold Stop
      (with_reducible rename Fr _ _ _ _ => Fs)
      (with_reducible rename News _ _ _ _ => Ns)
      refine slice_sn (s := ⟨_, _, _, _, _⟩) Fs Ns hs4 (by simp) ?_
      clear Fs Ns
      intro h17 t17 tk17 F17 N17
      k_steps
      (with_reducible rename Fr _ _ _ _ => Fz)
      (with_reducible rename News _ _ _ _ => Nz)
      exact CutE.mk Fz (fun q hq => Nz q (sub_cons (by repeat (first | exact List.Mem.head _ | refine List.Mem.tail _ ?_)) (sub_cons (by repeat (first | exact List.Mem.head _ | refine List.Mem.tail _ ?_)) (sub_cons (by repeat (first | exact List.Mem.head _ | refine List.Mem.tail _ ?_)) (fun p hp => by repeat (first | exact hp | refine List.Mem.tail _ ?_)))) q hq)) ⟨⟨_, _, _, _, (by repeat (first | with_reducible assumption | with_reducible exact if_pos rfl | refine (if_neg (by decide)).trans ?_ | rfl)), (by repeat (first | with_reducible assumption | with_reducible exact if_pos rfl | refine (if_neg (by decide)).trans ?_ | rfl)), (by repeat (first | with_reducible assumption | with_reducible exact if_pos rfl | refine (if_neg (by decide)).trans ?_ | rfl)), (by repeat (first | with_reducible assumption | with_reducible exact if_pos rfl | refine (if_neg (by decide)).trans ?_ | rfl)), (by repeat (first | with_reducible assumption | with_reducible exact if_pos rfl | refine (if_neg (by decide)).trans ?_ | rfl)), (by repeat (first | with_reducible assumption | with_reducible exact if_pos rfl | refine (if_neg (by decide)).trans ?_ | rfl)), (by repeat (first | with_reducible assumption | with_reducible exact if_pos rfl | refine (if_neg (by decide)).trans ?_ | rfl))⟩, _, _, (by repeat (first | with_reducible assumption | with_reducible exact if_pos rfl | refine (if_neg (by decide)).trans ?_ | rfl)), by rw [s94, txt_add]; rfl, rfl⟩
  have hSPl : (txt SP).length ≤ 5 := by rw [txt_length]; exact bf.plen
  intro m₇ news₇ h18 tk18 hq9 F18 N18
  (try k_fold)
  obtain ⟨⟨tp6, tq6, tn6, ti6, mp6, ms6, mq6, ma6, mr6, mn6, mi6⟩, ts6, xs6, mst6, rfl, rfl⟩ := hq9
  clear Fx Nx mp5 ms5 mq5 ma5 mr5 mn5 mi5 mj5 mc5
  k_steps
  unfold Stop
  rw [f_br]
  (with_reducible rename Fr _ _ _ _ => Fa)
  (with_reducible rename News _ _ _ _ => Na)
  refine add_own (rest := (57, tabObj ps14) :: (extra ++ xs)) Fa Na (by repeat (first | exact List.Mem.head _ | refine List.Mem.tail _ ?_)) (by repeat (first | exact List.Mem.head _ | refine List.Mem.tail _ ?_)) hbR (sub_cons (by repeat (first | exact List.Mem.head _ | refine List.Mem.tail _ ?_)) (fun p hp => by repeat (first | exact hp | refine List.Mem.tail _ ?_))) (off_cons h57R offR') (by lia) ?_
  clear Fa Na
  intro h19 F19 N19
  k_steps
  (with_reducible rename Fr _ _ _ _ => Fz)
  (with_reducible rename News _ _ _ _ => Nz)
  unfold GPost
  exact GEnd.mk (n' := pat.length - ((i + 5 + nn) + 1)) (fun x => ab14 (ab x)) Fz (nrot3 Nz) (Nat.sub_lt_sub_left (by lia) (by lia)) ⟨(i + 5 + nn) + 1, done ++ [.br neg a1 b1 c1], rest, _, _, ps14, extra ++ xs, _, _, _, _, ⟨(by repeat (first | with_reducible assumption | with_reducible exact if_pos rfl | refine (if_neg (by decide)).trans ?_ | rfl)), (by repeat (first | with_reducible assumption | with_reducible exact if_pos rfl | refine (if_neg (by decide)).trans ?_ | rfl)), (by repeat (first | with_reducible assumption | with_reducible exact if_pos rfl | refine (if_neg (by decide)).trans ?_ | rfl)), (by repeat (first | with_reducible assumption | with_reducible exact if_pos rfl | refine (if_neg (by decide)).trans ?_ | rfl)), (by repeat (first | with_reducible assumption | with_reducible exact if_pos rfl | refine (if_neg (by decide)).trans ?_ | rfl)), (by repeat (first | with_reducible assumption | with_reducible exact if_pos rfl | refine (if_neg (by decide)).trans ?_ | rfl)), (by repeat (first | with_reducible assumption | with_reducible exact if_pos rfl | refine (if_neg (by decide)).trans ?_ | rfl))⟩, rfl, V15, off57', offR', by simp, hd8, by rw [comp_snoc, compStep_other (.inl (by simp)), List.map_append]; exact All2.snoc hall ⟨_, by rw [hpc2]⟩, rfl, by lia, by simp only [List.length_append, List.length_cons, List.length_nil] at hrl ⊢; lia⟩
end T1
theorem core : P w h₀ size pat star tp tq dp un fr gd s Q E o := pre1.2 fun ps0 R b tk2 hz m₁ h3 tk3 g3 i done rv nr ps extra tp tq2 tn ti rest neg a1 b1 c1 lo hh cc nn pre C0 SS SP => pickAll T1.ne (P := fun c => ∀ i neg lo hh cc nn SS SP, pre1.1 (c.1) (c.2.1) (c.2.2.1) (c.2.2.2.1) (c.2.2.2.2.1) (c.2.2.2.2.2.1) (c.2.2.2.2.2.2.1) (c.2.2.2.2.2.2.2.1) (c.2.2.2.2.2.2.2.2.1) i (c.2.2.2.2.2.2.2.2.2.1) (c.2.2.2.2.2.2.2.2.2.2.1) (c.2.2.2.2.2.2.2.2.2.2.2.1) (c.2.2.2.2.2.2.2.2.2.2.2.2.1) (c.2.2.2.2.2.2.2.2.2.2.2.2.2.1) (c.2.2.2.2.2.2.2.2.2.2.2.2.2.2.1) (c.2.2.2.2.2.2.2.2.2.2.2.2.2.2.2.1) (c.2.2.2.2.2.2.2.2.2.2.2.2.2.2.2.2.1) (c.2.2.2.2.2.2.2.2.2.2.2.2.2.2.2.2.2.1) (c.2.2.2.2.2.2.2.2.2.2.2.2.2.2.2.2.2.2.1) neg (c.2.2.2.2.2.2.2.2.2.2.2.2.2.2.2.2.2.2.2.1) (c.2.2.2.2.2.2.2.2.2.2.2.2.2.2.2.2.2.2.2.2.1) (c.2.2.2.2.2.2.2.2.2.2.2.2.2.2.2.2.2.2.2.2.2.1) lo hh cc nn (c.2.2.2.2.2.2.2.2.2.2.2.2.2.2.2.2.2.2.2.2.2.2.1) (c.2.2.2.2.2.2.2.2.2.2.2.2.2.2.2.2.2.2.2.2.2.2.2) SS SP) T1.turn (ps0, R, b, tk2, hz, m₁, h3, tk3, g3, done, rv, nr, ps, extra, tp, tq2, tn, ti, rest, a1, b1, c1, pre, C0) i neg lo hh cc nn SS SP
end K_S_trans
theorem S_trans (w : World) (h₀ : Heap) (its : List It) (size : Nat) (pat : List Nat) (star : Addr) (tp tq : Tok) (hS : St w h₀) (hp : pat = patText size its) (hlen : its.length ≤ 10) (hsz : size = 32 ∨ size = 128) :
    SpecG w 62 [.str (txt pat) tp, .ref star, .str (txt [46]) tq] 12 1500 h₀ 57 (TabLV 57 lp lq) (fun tl v => ∃ l rv n, v = .ref l ∧ (l, W.listOf (List.toArray rv) n) ∈ tl ∧ All2 (PartR star) rv ((comp its).map (partOf size))) :=
  specG_of fun dp un fr gd s Q E o => pickAll K_S_trans.ne (P := fun c => K_S_trans.P (c.1) (c.2.1) (c.2.2.1) (c.2.2.2.1) (c.2.2.2.2.1) (c.2.2.2.2.2.1) (c.2.2.2.2.2.2.1) (c.2.2.2.2.2.2.2.1) (c.2.2.2.2.2.2.2.2.1) (c.2.2.2.2.2.2.2.2.2.1) (c.2.2.2.2.2.2.2.2.2.2.1) (c.2.2.2.2.2.2.2.2.2.2.2.1) (c.2.2.2.2.2.2.2.2.2.2.2.2.1) (c.2.2.2.2.2.2.2.2.2.2.2.2.2.1) (c.2.2.2.2.2.2.2.2.2.2.2.2.2.2)) K_S_trans.core (w, h₀, size, pat, star, tp, tq, dp, un, fr, gd, s, Q, E, o) its hS hp hlen hsz
end
end Mine
end
section
open PySem PySem.W PyProof.Rows PySem.Calls
set_option Elab.async false
set_option maxRecDepth 100000
set_option maxHeartbeats 2000000
namespace Mine
open PyProof.Rows.LCg (NsObj ns_obj lst lst_snoc SrcAt)
theorem f_txt {x : List Nat} : Str.empty ++ Str.ofString "(?>.*?" ++ txt x ++ Str.ofString ")" = txt ([40, 63, 62, 46, 42, 63] ++ x ++ [41]) := by
  rw [show Str.empty = txt [] from rfl, s6, s41, txt_add, txt_add, txt_add]; rfl
theorem new_first {h₀ h : Heap} {L D0 : Addr} {o : Obj} {rest : List (Addr × Obj)} {P : Prop} (_N : News h₀ L h ((D0, o) :: rest)) (k : ∀ D, D = D0 → P) : P := k D0 rfl

/-- the names of the joining -/
inductive JN (pl star b R : Addr) (n i : Nat) (m : Str → Option Value) : Prop
  | mk (tn : _) (ti : _) (h1 : m (Str.ofString "inp") = some (.ref pl)) (h2 : m (Str.ofString "STAR") = some (.ref star)) (h3 : m (Str.ofString "add") = some (.ref b)) (h4 : m (Str.ofString "res") = some (.ref R)) (h5 : m (Str.ofString "n") = some (.int (n : Nat) tn)) (h6 : m (Str.ofString "i") = some (.int (i : Nat) ti)) : JN pl star b R n i m
inductive J1 (pl star b R : Addr) (parts : List (Option (List Nat))) (r0 : List (List Nat)) (rs : List (List (List Nat))) (k : Nat) (m : Str → Option Value) (news : List (Addr × Obj)) : Prop
  | mk (i : _) (nr : _) (rv : _) (done : _) (todo : _) (h1 : JN pl star b R parts.length i m) (h2 : news = [(b, bnd R), (R, W.listOf (List.toArray rv) nr)]) (h3 : StrsAre rv done) (h4 : r0 = done ++ todo) (h5 : parts.drop i = todo.map some ++ tailO rs) (h6 : k = parts.length - i) (h7 : i ≤ parts.length) (h8 : rv.length ≤ i) : J1 pl star b R parts r0 rs k m news
inductive P1 (pl star b R : Addr) (parts : List (Option (List Nat))) (r0 : List (List Nat)) (rs : List (List (List Nat))) (m : Str → Option Value) (news : List (Addr × Obj)) : Prop
  | mk (i : _) (nr : _) (rv : _) (h1 : JN pl star b R parts.length i m) (h2 : news = [(b, bnd R), (R, W.listOf (List.toArray rv) nr)]) (h3 : StrsAre rv r0) (h4 : parts.drop i = tailO rs) (h5 : i ≤ parts.length) (h6 : rv.length ≤ i) : P1 pl star b R parts r0 rs m news
inductive J2 (pl star b R : Addr) (parts : List (Option (List Nat))) (whole : List Nat) (k : Nat) (m : Str → Option Value) (news : List (Addr × Obj)) : Prop
  | mk (i : _) (nr : _) (rv : _) (ps : _) (rs : _) (h1 : JN pl star b R parts.length i m) (h2 : news = [(b, bnd R), (R, W.listOf (List.toArray rv) nr)]) (h3 : StrsAre rv ps) (h4 : parts.drop i = tailO rs) (h5 : goodR rs) (h6 : ps.flatten ++ tailR rs = whole) (h7 : k = parts.length - i) (h8 : i ≤ parts.length) (h9 : rv.length ≤ 2 * i) : J2 pl star b R parts whole k m news
inductive P2 (pl star b R : Addr) (parts : List (Option (List Nat))) (whole : List Nat) (m : Str → Option Value) (news : List (Addr × Obj)) : Prop
  | mk (nr : _) (rv : _) (ps : _) (h1 : JN pl star b R parts.length parts.length m) (h2 : news = [(b, bnd R), (R, W.listOf (List.toArray rv) nr)]) (h3 : StrsAre rv ps) (h4 : ps.flatten = whole) (h5 : rv.length ≤ 2 * parts.length) : P2 pl star b R parts whole m news
inductive J3 (pl star b R D : Addr) (parts : List (Option (List Nat))) (r : List (List Nat)) (rs : List (List (List Nat))) (rest : List (Addr × Obj)) (i0 : Nat) (k : Nat) (m : Str → Option Value) (news : List (Addr × Obj)) : Prop
  | mk (i : _) (nf : _) (fv : _) (done : _) (todo : _) (h1 : JN pl star b R parts.length i m) (h2 : m (Str.ofString "fixed") = some (.ref D)) (h3 : news = (D, W.listOf (List.toArray fv) nf) :: rest) (h4 : StrsAre fv done) (h5 : r = done ++ todo) (h6 : parts.drop i = todo.map some ++ tailO rs) (h7 : k = parts.length - i) (h8 : i ≤ parts.length) (h9 : fv.length ≤ i) (h10 : i0 < i) : J3 pl star b R D parts r rs rest i0 k m news
inductive P3 (pl star b R D : Addr) (parts : List (Option (List Nat))) (r : List (List Nat)) (rs : List (List (List Nat))) (rest : List (Addr × Obj)) (i0 : Nat) (m : Str → Option Value) (news : List (Addr × Obj)) : Prop
  | mk (i : _) (nf : _) (fv : _) (h1 : JN pl star b R parts.length i m) (h2 : m (Str.ofString "fixed") = some (.ref D)) (h3 : news = (D, W.listOf (List.toArray fv) nf) :: rest) (h4 : StrsAre fv r) (h5 : parts.drop i = tailO rs) (h6 : i ≤ parts.length) (h7 : i0 < i) : P3 pl star b R D parts r rs rest i0 m news

section
local macro_rules | `(tactic| walk_at "execs cons") => `(tactic| wtm_at "mXC")
local macro_rules | `(tactic| walk_at "call builtin:len") => `(tactic| wtm_at "mSB")
local macro_rules | `(tactic| walk_at "getAttr") => `(tactic| wtm_at "mS")
local macro_rules | `(tactic| walk_at "subscriptTail Name Name ref int") => `(tactic| wtm_at "mS")
local macro_rules | `(tactic| walk_at "loadName") => `(tactic| wtm_at "mS")
local macro_rules | `(tactic| walk_at "callWith ref") => `(tactic| (refine' Mine.callWith_bnd ?kN ?kM ?_; (case kN => k_asm); (case kM => k_mem)))
local macro_rules | `(tactic| walk_at "BndAt") => `(tactic| k_dflt (first | exact Mine.bnd_at (by k_asm) (by k_mem) | exact Mine.bnd_at (by assumption) (by k_mem)))
local macro_rules | `(tactic| walk_at "eval Name") => `(tactic| wtm_at "mNM")

namespace K_S_join
def P (w : World) (h : Heap) (pl : Addr) (star : Addr) (pv : List Value) (dp : Nat) (un : Nat) (fr : Option (List Env)) (gd : Option (List Code)) (s : Shared) (Q : Value → Shared → Prop) (E : Value → Shared → Prop) : Prop :=
  ∀ (parts : List (Option (List Nat))) (r0 : List (List Nat)) (rs : List (List (List Nat))) (hS : St w h) (hl : h.IsList pl pv.toArray) (hall : All2 (PartR star) pv parts) (hlen : pv.length ≤ 50) (hparts : parts = r0.map some ++ tailO rs) (hgood : goodR rs) (hsum : (r0.flatten ++ tailR rs).length ≤ 500), SpecAt w 69 [.ref pl, .ref star] 6 600 h (fun tl v => ∃ t, v = .str (txt ([40, 63, 115, 58] ++ (r0.flatten ++ tailR rs) ++ [41, 92, 90])) t) dp un fr gd s Q E
theorem ne : Nonempty ((World) × (Heap) × (Addr) × (Addr) × (List Value) × (Nat) × (Nat) × (Option (List Env)) × (Option (List Code)) × (Shared) × (Value → Shared → Prop) × (Value → Shared → Prop)) := ⟨(w0, Classical.ofNonempty, Classical.ofNonempty, Classical.ofNonempty, Classical.ofNonempty, Classical.ofNonempty, Classical.ofNonempty, Classical.ofNonempty, Classical.ofNonempty, {}, Classical.ofNonempty, Classical.ofNonempty)⟩
noncomputable def κ : (World) × (Heap) × (Addr) × (Addr) × (List Value) × (Nat) × (Nat) × (Option (List Env)) × (Option (List Code)) × (Shared) × (Value → Shared → Prop) × (Value → Shared → Prop) := pick ne fun c => ¬ P (c.1) (c.2.1) (c.2.2.1) (c.2.2.2.1) (c.2.2.2.2.1) (c.2.2.2.2.2.1) (c.2.2.2.2.2.2.1) (c.2.2.2.2.2.2.2.1) (c.2.2.2.2.2.2.2.2.1) (c.2.2.2.2.2.2.2.2.2.1) (c.2.2.2.2.2.2.2.2.2.2.1) (c.2.2.2.2.2.2.2.2.2.2.2)
noncomputable def w : World := κ.1
noncomputable def h : Heap := κ.2.1
noncomputable def pl : Addr := κ.2.2.1
noncomputable def star : Addr := κ.2.2.2.1
noncomputable def pv : List Value := κ.2.2.2.2.1
noncomputable def dp : Nat := κ.2.2.2.2.2.1
noncomputable def un : Nat := κ.2.2.2.2.2.2.1
noncomputable def fr : Option (List Env) := κ.2.2.2.2.2.2.2.1
noncomputable def gd : Option (List Code) := κ.2.2.2.2.2.2.2.2.1
noncomputable def s : Shared := κ.2.2.2.2.2.2.2.2.2.1
noncomputable def Q : Value → Shared → Prop := κ.2.2.2.2.2.2.2.2.2.2.1
noncomputable def E : Value → Shared → Prop := κ.2.2.2.2.2.2.2.2.2.2.2
noncomputable def L : Addr := Heap.objs h |>.size
noncomputable def h₁ : Heap := (HT (hd.heap_39 w.params) 69 w h L dp un fr gd s Q [(Str.ofString "inp", .ref pl), (Str.ofString "STAR", .ref star)]).1
noncomputable def tk : Nat := (HT (hd.heap_39 w.params) 69 w h L dp un fr gd s Q [(Str.ofString "inp", .ref pl), (Str.ofString "STAR", .ref star)]).2
theorem core : P w h pl star pv dp un fr gd s Q E := by
  intro parts r0 rs hS hl hall hlen hparts hgood hsum hdp hun hh hQ
  w_top off
  refine fillG ?_
  k_fill
  intro _ _
  obtain ⟨X, T⟩ := St.top hS
  refine' enterE (K := hd.heap_39 w.params) hdp hh L rfl X T [(Str.ofString "inp", .ref pl), (Str.ofString "STAR", .ref star)] ?k3 ?k4 (by lia) ?k6 ?k7 ?k8 ?k9 ?k10 ?k11 h₁ rfl tk rfl ?_
  case k3 => k_is
  case k4 => k_is
  case k6 => exact rfl
  case k7 => decide
  case k8 => exact locs rfl
  case k9 => exact rfl
  case k10 => exact rfl
  case k11 => exact rfl
  intro F N
  have hL : L = h.objs.size := rfl
  try dsimp only
  k_steps
  repeat' ((first | ((with_reducible refine Stop.bui "len" ?_); refine len_lst (by is_list) (by (try simp only [List.length_cons, List.length_nil]); lia) ?_; intro _ _; (try dsimp only)) | ((with_reducible refine Stop.isn ?_); refine PySem.wpAny_isNot_other (by rfl) (by intro x; cases x) ?_) | ((with_reducible refine Stop.sub ?_); first | refine item_at (by is_list) (by with_reducible assumption) (by lia) ?_ (by with_unfolding_all rfl) | refine item_atZ (by is_list) (by with_reducible assumption) (by lia) (by lia) ?_ (by with_unfolding_all rfl)) | ((with_reducible refine Stop.ldn ?_); refine PyProof.Rows.ldn (by assumption) (by wtm_at "mLK") ?_)); (try k_steps))
  unfold Stop
  (with_reducible rename Fr _ _ _ _ => Fx)
  (with_reducible rename News _ _ _ _ => Nx)
  refine get_add (rv := []) Fx Nx ?_
  clear Fx Nx
  intro R b h2 tk2 hR F2 N2 hbR hbl hLb
  subst hR
  k_steps
  repeat' ((first | ((with_reducible refine Stop.bui "len" ?_); refine len_lst (by is_list) (by (try simp only [List.length_cons, List.length_nil]); lia) ?_; intro _ _; (try dsimp only)) | ((with_reducible refine Stop.isn ?_); refine PySem.wpAny_isNot_other (by rfl) (by intro x; cases x) ?_) | ((with_reducible refine Stop.sub ?_); first | refine item_at (by is_list) (by with_reducible assumption) (by lia) ?_ (by with_unfolding_all rfl) | refine item_atZ (by is_list) (by with_reducible assumption) (by lia) (by lia) ?_ (by with_unfolding_all rfl)) | ((with_reducible refine Stop.ldn ?_); refine PyProof.Rows.ldn (by assumption) (by wtm_at "mLK") ?_)); (try k_steps))
  unfold Stop
  (with_reducible rename Fr _ _ _ _ => Fx)
  (with_reducible rename News _ _ _ _ => Nx)
  have hpn : pv.length = parts.length := hall.1
  rw [hpn] at Fx
  refine my_whileP (J1 pl star b R parts r0 rs) (P1 pl star b R parts r0 rs) (n₀ := parts.length) Fx (news_tail Nx) ?first1 ?turn1 ?fin1
  case first1 => exact ⟨0, 0, [], [], r0, ⟨_, _, (by repeat (first | with_reducible assumption | with_reducible exact if_pos rfl | refine (if_neg (by decide)).trans ?_ | rfl)), (by repeat (first | with_reducible assumption | with_reducible exact if_pos rfl | refine (if_neg (by decide)).trans ?_ | rfl)), (by repeat (first | with_reducible assumption | with_reducible exact if_pos rfl | refine (if_neg (by decide)).trans ?_ | rfl)), (by repeat (first | with_reducible assumption | with_reducible exact if_pos rfl | refine (if_neg (by decide)).trans ?_ | rfl)), (by repeat (first | with_reducible assumption | with_reducible exact if_pos rfl | refine (if_neg (by decide)).trans ?_ | rfl)), (by repeat (first | with_reducible assumption | with_reducible exact if_pos rfl | refine (if_neg (by decide)).trans ?_ | rfl))⟩, rfl, All2.nil, rfl, hparts, rfl, Nat.zero_le _, Nat.zero_le _⟩
  case turn1 =>
    intro k m₁ news₁ h3 tk3 hq1 F3 N3
    (try k_fold)
    obtain ⟨i, nr, rv, done, todo, ⟨tn, ti, mp, ms, ma, mr, mn, mi⟩, rfl, hrv, rfl, hd, rfl, hin, hrl⟩ := hq1
    clear Fx Nx
    cases todo with
    | nil =>
      rw [List.append_nil] at *
      cases rs with
      | nil =>
        have hi : parts.length ≤ i := List.drop_eq_nil_iff.mp hd
        k_steps
        repeat' ((first | ((with_reducible refine Stop.bui "len" ?_); refine len_lst (by is_list) (by (try simp only [List.length_cons, List.length_nil]); lia) ?_; intro _ _; (try dsimp only)) | ((with_reducible refine Stop.isn ?_); refine PySem.wpAny_isNot_other (by rfl) (by intro x; cases x) ?_) | ((with_reducible refine Stop.sub ?_); first | refine item_at (by is_list) (by with_reducible assumption) (by lia) ?_ (by with_unfolding_all rfl) | refine item_atZ (by is_list) (by with_reducible assumption) (by lia) (by lia) ?_ (by with_unfolding_all rfl)) | ((with_reducible refine Stop.ldn ?_); refine PyProof.Rows.ldn (by assumption) (by wtm_at "mLK") ?_)); (try k_steps))
        exact XEnd.mk F3 N3 ⟨i, nr, rv, ⟨tn, ti, mp, ms, ma, mr, mn, mi⟩, rfl, (by rw [List.append_nil]; exact hrv), hd, hin, hrl⟩
      | cons r rs =>
        obtain ⟨v, hv, rfl, hi, hd'⟩ := part_at hall (p := none) hd
        k_steps
        repeat' ((first | ((with_reducible refine Stop.bui "len" ?_); refine len_lst (by is_list) (by (try simp only [List.length_cons, List.length_nil]); lia) ?_; intro _ _; (try dsimp only)) | ((with_reducible refine Stop.isn ?_); refine PySem.wpAny_isNot_other (by rfl) (by intro x; cases x) ?_) | ((with_reducible refine Stop.sub ?_); first | refine item_at (by is_list) (by with_reducible assumption) (by lia) ?_ (by with_unfolding_all rfl) | refine item_atZ (by is_list) (by with_reducible assumption) (by lia) (by lia) ?_ (by with_unfolding_all rfl)) | ((with_reducible refine Stop.ldn ?_); refine PyProof.Rows.ldn (by assumption) (by wtm_at "mLK") ?_)); (try k_steps))
        exact XEnd.mk F3 N3 ⟨i, nr, rv, ⟨tn, ti, mp, ms, ma, mr, mn, mi⟩, rfl, (by rw [List.append_nil]; exact hrv), hd, hin, hrl⟩
    | cons q todo =>
      obtain ⟨v, hv, ⟨tv, rfl⟩, hi, hd'⟩ := part_at hall (p := some q) hd
      k_steps
      repeat' ((first | ((with_reducible refine Stop.bui "len" ?_); refine len_lst (by is_list) (by (try simp only [List.length_cons, List.length_nil]); lia) ?_; intro _ _; (try dsimp only)) | ((with_reducible refine Stop.isn ?_); refine PySem.wpAny_isNot_other (by rfl) (by intro x; cases x) ?_) | ((with_reducible refine Stop.sub ?_); first | refine item_at (by is_list) (by with_reducible assumption) (by lia) ?_ (by with_unfolding_all rfl) | refine item_atZ (by is_list) (by with_reducible assumption) (by lia) (by lia) ?_ (by with_unfolding_all rfl)) | ((with_reducible refine Stop.ldn ?_); refine PyProof.Rows.ldn (by assumption) (by wtm_at "mLK") ?_)); (try k_steps))
      unfold Stop
      (with_reducible rename Fr _ _ _ _ => Fa)
      (with_reducible rename News _ _ _ _ => Na)
      refine add_own (rest := []) Fa Na (by repeat (first | exact List.Mem.head _ | refine List.Mem.tail _ ?_)) (by repeat (first | exact List.Mem.head _ | refine List.Mem.tail _ ?_)) hbR sub_nil off_nil (by lia) ?_
      clear Fa Na
      intro h5 F5 N5
      k_steps
      repeat' ((first | ((with_reducible refine Stop.bui "len" ?_); refine len_lst (by is_list) (by (try simp only [List.length_cons, List.length_nil]); lia) ?_; intro _ _; (try dsimp only)) | ((with_reducible refine Stop.isn ?_); refine PySem.wpAny_isNot_other (by rfl) (by intro x; cases x) ?_) | ((with_reducible refine Stop.sub ?_); first | refine item_at (by is_list) (by with_reducible assumption) (by lia) ?_ (by with_unfolding_all rfl) | refine item_atZ (by is_list) (by with_reducible assumption) (by lia) (by lia) ?_ (by with_unfolding_all rfl)) | ((with_reducible refine Stop.ldn ?_); refine PyProof.Rows.ldn (by assumption) (by wtm_at "mLK") ?_)); (try k_steps))
      unfold WPost
      exact WEnd.mk (n' := parts.length - (i + 1)) (by assumption) (by assumption) (Nat.sub_lt_sub_left (by lia) (by lia)) ⟨i + 1, _, _, done ++ [q], todo, ⟨_, _, (by repeat (first | with_reducible assumption | with_reducible exact if_pos rfl | refine (if_neg (by decide)).trans ?_ | rfl)), (by repeat (first | with_reducible assumption | with_reducible exact if_pos rfl | refine (if_neg (by decide)).trans ?_ | rfl)), (by repeat (first | with_reducible assumption | with_reducible exact if_pos rfl | refine (if_neg (by decide)).trans ?_ | rfl)), (by repeat (first | with_reducible assumption | with_reducible exact if_pos rfl | refine (if_neg (by decide)).trans ?_ | rfl)), (by repeat (first | with_reducible assumption | with_reducible exact if_pos rfl | refine (if_neg (by decide)).trans ?_ | rfl)), (by repeat (first | with_reducible assumption | with_reducible exact if_pos rfl | refine (if_neg (by decide)).trans ?_ | rfl))⟩, rfl, hrv.snoc, by simp, hd', rfl, by lia, by rw [List.length_append]; exact Nat.succ_le_succ hrl⟩
  case fin1 =>
    intro m₁ news₁ h3 tk3 hq2 F3 N3
    (try k_fold)
    obtain ⟨i, nr, rv, ⟨tn, ti, mp, ms, ma, mr, mn, mi⟩, rfl, hrv, hd, hin, hrl⟩ := hq2
    clear Fx Nx
    k_steps
    repeat' ((first | ((with_reducible refine Stop.bui "len" ?_); refine len_lst (by is_list) (by (try simp only [List.length_cons, List.length_nil]); lia) ?_; intro _ _; (try dsimp only)) | ((with_reducible refine Stop.isn ?_); refine PySem.wpAny_isNot_other (by rfl) (by intro x; cases x) ?_) | ((with_reducible refine Stop.sub ?_); first | refine item_at (by is_list) (by with_reducible assumption) (by lia) ?_ (by with_unfolding_all rfl) | refine item_atZ (by is_list) (by with_reducible assumption) (by lia) (by lia) ?_ (by with_unfolding_all rfl)) | ((with_reducible refine Stop.ldn ?_); refine PyProof.Rows.ldn (by assumption) (by wtm_at "mLK") ?_)); (try k_steps))
    unfold Stop
    generalize hwe : r0.flatten ++ tailR rs = whole at *
    refine my_whileP (J2 pl star b R parts whole) (P2 pl star b R parts whole) (n₀ := parts.length - i) F3 N3 ?first2 ?turn2 ?fin2
    case first2 => exact ⟨i, nr, rv, r0, rs, ⟨tn, ti, mp, ms, ma, mr, mn, mi⟩, rfl, hrv, hd, hgood, hwe, rfl, hin, by lia⟩
    case turn2 =>
      clear hgood hd hrv hwe hrl hin mp ms ma mr mn mi
      intro k m₁ news₁ h3 tk3 hq3 F3 N3
      (try k_fold)
      obtain ⟨i, nr, rv, ps, rs, ⟨tn, ti, mp, ms, ma, mr, mn, mi⟩, rfl, hrv, hd, hg, hw, rfl, hin, hrl⟩ := hq3
      cases rs with
      | nil =>
        have hi : parts.length ≤ i := List.drop_eq_nil_iff.mp hd
        obtain rfl : i = parts.length := by lia
        k_steps
        repeat' ((first | ((with_reducible refine Stop.bui "len" ?_); refine len_lst (by is_list) (by (try simp only [List.length_cons, List.length_nil]); lia) ?_; intro _ _; (try dsimp only)) | ((with_reducible refine Stop.isn ?_); refine PySem.wpAny_isNot_other (by rfl) (by intro x; cases x) ?_) | ((with_reducible refine Stop.sub ?_); first | refine item_at (by is_list) (by with_reducible assumption) (by lia) ?_ (by with_unfolding_all rfl) | refine item_atZ (by is_list) (by with_reducible assumption) (by lia) (by lia) ?_ (by with_unfolding_all rfl)) | ((with_reducible refine Stop.ldn ?_); refine PyProof.Rows.ldn (by assumption) (by wtm_at "mLK") ?_)); (try k_steps))
        exact XEnd.mk F3 N3 ⟨nr, rv, ps, ⟨tn, ti, mp, ms, ma, mr, mn, mi⟩, rfl, hrv, by rw [← hw]; simp [tailR], hrl⟩
      | cons r rs =>
        obtain ⟨v, hv, rfl, hi, hd'⟩ := part_at hall (p := none) hd
        have hrl2 := tail_len (r := r) (rs := rs)
        have hwl : ps.flatten.length + (tailR (r :: rs)).length = whole.length := by rw [← hw, List.length_append]
        cases r with
        | nil =>
          cases rs with
          | cons a b => exact absurd rfl hg.1
          | nil =>
            have hi2 : parts.length ≤ i + 1 := List.drop_eq_nil_iff.mp hd'
            have hi3 : (i : Int) + 1 = (parts.length : Nat) := by lia
            k_steps
            repeat' ((first | ((with_reducible refine Stop.bui "len" ?_); refine len_lst (by is_list) (by (try simp only [List.length_cons, List.length_nil]); lia) ?_; intro _ _; (try dsimp only)) | ((with_reducible refine Stop.isn ?_); refine PySem.wpAny_isNot_other (by rfl) (by intro x; cases x) ?_) | ((with_reducible refine Stop.sub ?_); first | refine item_at (by is_list) (by with_reducible assumption) (by lia) ?_ (by with_unfolding_all rfl) | refine item_atZ (by is_list) (by with_reducible assumption) (by lia) (by lia) ?_ (by with_unfolding_all rfl)) | ((with_reducible refine Stop.ldn ?_); refine PyProof.Rows.ldn (by assumption) (by wtm_at "mLK") ?_)); (try k_steps))
            all_goals first | (exfalso; lia) | skip
            unfold Stop
            (with_reducible rename Fr _ _ _ _ => Fa)
            (with_reducible rename News _ _ _ _ => Na)
            refine add_own (rest := []) Fa Na (by repeat (first | exact List.Mem.head _ | refine List.Mem.tail _ ?_)) (by repeat (first | exact List.Mem.head _ | refine List.Mem.tail _ ?_)) hbR sub_nil off_nil (by lia) ?_
            clear Fa Na
            intro h5 F5 N5
            rw [s2] at N5
            k_steps
            repeat' ((first | ((with_reducible refine Stop.bui "len" ?_); refine len_lst (by is_list) (by (try simp only [List.length_cons, List.length_nil]); lia) ?_; intro _ _; (try dsimp only)) | ((with_reducible refine Stop.isn ?_); refine PySem.wpAny_isNot_other (by rfl) (by intro x; cases x) ?_) | ((with_reducible refine Stop.sub ?_); first | refine item_at (by is_list) (by with_reducible assumption) (by lia) ?_ (by with_unfolding_all rfl) | refine item_atZ (by is_list) (by with_reducible assumption) (by lia) (by lia) ?_ (by with_unfolding_all rfl)) | ((with_reducible refine Stop.ldn ?_); refine PyProof.Rows.ldn (by assumption) (by wtm_at "mLK") ?_)); (try k_steps))
            (with_reducible rename Fr _ _ _ _ => Fz)
            rw [hi3] at Fz
            exact XEnd.mk Fz N5 ⟨_, _, ps ++ [[46, 42]], ⟨_, _, (by repeat (first | with_reducible assumption | with_reducible exact if_pos rfl | refine (if_neg (by decide)).trans ?_ | rfl)), (by repeat (first | with_reducible assumption | with_reducible exact if_pos rfl | refine (if_neg (by decide)).trans ?_ | rfl)), (by repeat (first | with_reducible assumption | with_reducible exact if_pos rfl | refine (if_neg (by decide)).trans ?_ | rfl)), (by repeat (first | with_reducible assumption | with_reducible exact if_pos rfl | refine (if_neg (by decide)).trans ?_ | rfl)), (by repeat (first | with_reducible assumption | with_reducible exact if_pos rfl | refine (if_neg (by decide)).trans ?_ | rfl)), (by repeat (first | with_reducible assumption | with_reducible exact if_pos rfl | refine (if_neg (by decide)).trans ?_ | rfl))⟩, rfl, hrv.snoc, by rw [← hw]; simp [tailR], by rw [List.length_append]; show rv.length + 1 ≤ _; lia⟩
        | cons q r =>
          obtain ⟨v2, hv2, ⟨t2, rfl⟩, hi2, hd2⟩ := part_at hall (p := some q) hd'
          have hv2' : pv[((i : Int) + 1).toNat]? = some (.str (txt q) t2) := by rw [show ((i : Int) + 1).toNat = i + 1 by lia]; exact hv2
          k_steps
          repeat' ((first | ((with_reducible refine Stop.bui "len" ?_); refine len_lst (by is_list) (by (try simp only [List.length_cons, List.length_nil]); lia) ?_; intro _ _; (try dsimp only)) | ((with_reducible refine Stop.isn ?_); refine PySem.wpAny_isNot_other (by rfl) (by intro x; cases x) ?_) | ((with_reducible refine Stop.sub ?_); first | refine item_at (by is_list) (by with_reducible assumption) (by lia) ?_ (by with_unfolding_all rfl) | refine item_atZ (by is_list) (by with_reducible assumption) (by lia) (by lia) ?_ (by with_unfolding_all rfl)) | ((with_reducible refine Stop.ldn ?_); refine PyProof.Rows.ldn (by assumption) (by wtm_at "mLK") ?_)); (try k_steps))
          all_goals first | (exfalso; lia) | skip
          unfold Stop
          (with_reducible rename Fr _ _ _ _ => Fx)
          (with_reducible rename News _ _ _ _ => Nx)
          refine new_first Nx ?_
          intro D hD
          subst hD
          (repeat (with_reducible rename _ ∧ _ => qq; have zq1 := And.left qq; have zq2 := And.right qq; clear qq))
          have nDR : @Ne Nat D R := by lia
          have nDb : @Ne Nat D b := by lia
          refine my_whileP (J3 pl star b R D parts (q :: r) rs [(b, bnd R), (R, W.listOf (List.toArray rv) nr)] i) (P3 pl star b R D parts (q :: r) rs [(b, bnd R), (R, W.listOf (List.toArray rv) nr)] i) (n₀ := parts.length - (i + 1)) Fx Nx ?first3 ?turn3 ?fin3
          case first3 => exact ⟨i + 1, 0, [], [], q :: r, ⟨_, _, (by repeat (first | with_reducible assumption | with_reducible exact if_pos rfl | refine (if_neg (by decide)).trans ?_ | rfl)), (by repeat (first | with_reducible assumption | with_reducible exact if_pos rfl | refine (if_neg (by decide)).trans ?_ | rfl)), (by repeat (first | with_reducible assumption | with_reducible exact if_pos rfl | refine (if_neg (by decide)).trans ?_ | rfl)), (by repeat (first | with_reducible assumption | with_reducible exact if_pos rfl | refine (if_neg (by decide)).trans ?_ | rfl)), (by repeat (first | with_reducible assumption | with_reducible exact if_pos rfl | refine (if_neg (by decide)).trans ?_ | rfl)), (by repeat (first | with_reducible assumption | with_reducible exact if_pos rfl | refine (if_neg (by decide)).trans ?_ | rfl))⟩, (by repeat (first | with_reducible assumption | with_reducible exact if_pos rfl | refine (if_neg (by decide)).trans ?_ | rfl)), rfl, All2.nil, rfl, hd', rfl, by lia, Nat.zero_le _, by lia⟩
          case turn3 =>
            intro k m₂ news₂ h4 tk4 hq4 F4 N4
            (try k_fold)
            obtain ⟨j, nf, fv, done, todo, ⟨tn, ti, mp, ms, ma, mr, mn, mi⟩, mf, rfl, hfv, hqr, hdj, rfl, hjn, hfl, hij⟩ := hq4
            (try clear F3)
            (try clear N3)
            clear Fx Nx
            cases todo with
            | nil =>
              rw [List.append_nil] at hqr
              cases rs with
              | nil =>
                have hj : parts.length ≤ j := List.drop_eq_nil_iff.mp hdj
                k_steps
                repeat' ((first | ((with_reducible refine Stop.bui "len" ?_); refine len_lst (by is_list) (by (try simp only [List.length_cons, List.length_nil]); lia) ?_; intro _ _; (try dsimp only)) | ((with_reducible refine Stop.isn ?_); refine PySem.wpAny_isNot_other (by rfl) (by intro x; cases x) ?_) | ((with_reducible refine Stop.sub ?_); first | refine item_at (by is_list) (by with_reducible assumption) (by lia) ?_ (by with_unfolding_all rfl) | refine item_atZ (by is_list) (by with_reducible assumption) (by lia) (by lia) ?_ (by with_unfolding_all rfl)) | ((with_reducible refine Stop.ldn ?_); refine PyProof.Rows.ldn (by assumption) (by wtm_at "mLK") ?_)); (try k_steps))
                exact XEnd.mk F4 N4 ⟨j, nf, fv, ⟨tn, ti, mp, ms, ma, mr, mn, mi⟩, mf, rfl, hqr ▸ hfv, hdj, hjn, hij⟩
              | cons r2 rs =>
                obtain ⟨v3, hv3, rfl, hj, hdj'⟩ := part_at hall (p := none) hdj
                k_steps
                repeat' ((first | ((with_reducible refine Stop.bui "len" ?_); refine len_lst (by is_list) (by (try simp only [List.length_cons, List.length_nil]); lia) ?_; intro _ _; (try dsimp only)) | ((with_reducible refine Stop.isn ?_); refine PySem.wpAny_isNot_other (by rfl) (by intro x; cases x) ?_) | ((with_reducible refine Stop.sub ?_); first | refine item_at (by is_list) (by with_reducible assumption) (by lia) ?_ (by with_unfolding_all rfl) | refine item_atZ (by is_list) (by with_reducible assumption) (by lia) (by lia) ?_ (by with_unfolding_all rfl)) | ((with_reducible refine Stop.ldn ?_); refine PyProof.Rows.ldn (by assumption) (by wtm_at "mLK") ?_)); (try k_steps))
                exact XEnd.mk F4 N4 ⟨j, nf, fv, ⟨tn, ti, mp, ms, ma, mr, mn, mi⟩, mf, rfl, hqr ▸ hfv, hdj, hjn, hij⟩
            | cons q2 todo =>
              obtain ⟨v3, hv3, ⟨t3, rfl⟩, hj, hdj'⟩ := part_at hall (p := some q2) hdj
              k_steps
              repeat' ((first | ((with_reducible refine Stop.bui "len" ?_); refine len_lst (by is_list) (by (try simp only [List.length_cons, List.length_nil]); lia) ?_; intro _ _; (try dsimp only)) | ((with_reducible refine Stop.isn ?_); refine PySem.wpAny_isNot_other (by rfl) (by intro x; cases x) ?_) | ((with_reducible refine Stop.sub ?_); first | refine item_at (by is_list) (by with_reducible assumption) (by lia) ?_ (by with_unfolding_all rfl) | refine item_atZ (by is_list) (by with_reducible assumption) (by lia) (by lia) ?_ (by with_unfolding_all rfl)) | ((with_reducible refine Stop.ldn ?_); refine PyProof.Rows.ldn (by assumption) (by wtm_at "mLK") ?_)); (try k_steps))
              unfold Stop
              (with_reducible rename Fr _ _ _ _ => Fa)
              (with_reducible rename News _ _ _ _ => Na)
              refine append_own Fa Na (off_cons (Ne.symm nDb) (off_cons (Ne.symm nDR) off_nil)) (by lia) ?_
              clear Fa Na
              intro h6 F6 N6
              k_steps
              repeat' ((first | ((with_reducible refine Stop.bui "len" ?_); refine len_lst (by is_list) (by (try simp only [List.length_cons, List.length_nil]); lia) ?_; intro _ _; (try dsimp only)) | ((with_reducible refine Stop.isn ?_); refine PySem.wpAny_isNot_other (by rfl) (by intro x; cases x) ?_) | ((with_reducible refine Stop.sub ?_); first | refine item_at (by is_list) (by with_reducible assumption) (by lia) ?_ (by with_unfolding_all rfl) | refine item_atZ (by is_list) (by with_reducible assumption) (by lia) (by lia) ?_ (by with_unfolding_all rfl)) | ((with_reducible refine Stop.ldn ?_); refine PyProof.Rows.ldn (by assumption) (by wtm_at "mLK") ?_)); (try k_steps))
              unfold WPost
              exact WEnd.mk (n' := parts.length - (j + 1)) (by assumption) (by assumption) (Nat.sub_lt_sub_left (by lia) (by lia)) ⟨j + 1, _, _, done ++ [q2], todo, ⟨_, _, (by repeat (first | with_reducible assumption | with_reducible exact if_pos rfl | refine (if_neg (by decide)).trans ?_ | rfl)), (by repeat (first | with_reducible assumption | with_reducible exact if_pos rfl | refine (if_neg (by decide)).trans ?_ | rfl)), (by repeat (first | with_reducible assumption | with_reducible exact if_pos rfl | refine (if_neg (by decide)).trans ?_ | rfl)), (by repeat (first | with_reducible assumption | with_reducible exact if_pos rfl | refine (if_neg (by decide)).trans ?_ | rfl)), (by repeat (first | with_reducible assumption | with_reducible exact if_pos rfl | refine (if_neg (by decide)).trans ?_ | rfl)), (by repeat (first | with_reducible assumption | with_reducible exact if_pos rfl | refine (if_neg (by decide)).trans ?_ | rfl))⟩, (by repeat (first | with_reducible assumption | with_reducible exact if_pos rfl | refine (if_neg (by decide)).trans ?_ | rfl)), rfl, hfv.snoc, by rw [hqr]; simp, hdj', rfl, by lia, by rw [List.length_append]; exact Nat.succ_le_succ hfl, by lia⟩
          case fin3 =>
            intro m₂ news₂ h4 tk4 hq5 F4 N4
            (try k_fold)
            obtain ⟨j, nf, fv, ⟨tn, ti, mp, ms, ma, mr, mn, mi⟩, mf, rfl, hfv, hdj, hjn, hij⟩ := hq5
            (try clear F3)
            (try clear N3)
            clear Fx Nx
            k_steps
            repeat' ((first | ((with_reducible refine Stop.bui "len" ?_); refine len_lst (by is_list) (by (try simp only [List.length_cons, List.length_nil]); lia) ?_; intro _ _; (try dsimp only)) | ((with_reducible refine Stop.isn ?_); refine PySem.wpAny_isNot_other (by rfl) (by intro x; cases x) ?_) | ((with_reducible refine Stop.sub ?_); first | refine item_at (by is_list) (by with_reducible assumption) (by lia) ?_ (by with_unfolding_all rfl) | refine item_atZ (by is_list) (by with_reducible assumption) (by lia) (by lia) ?_ (by with_unfolding_all rfl)) | ((with_reducible refine Stop.ldn ?_); refine PyProof.Rows.ldn (by assumption) (by wtm_at "mLK") ?_)); (try k_steps))
            unfold Stop
            refine join_call (sp := []) (News.isList (by assumption) (List.Mem.head _)) hfv (by rw [← List.length_flatten]; simp only [List.length_nil, Nat.mul_zero]; lia) ?_
            intro tk5 t5
            rw [joinL_nil]
            have hfx : (txt (q :: r).flatten).length ≤ 600 := by rw [txt_length]; lia
            cases rs with
            | nil =>
              have hj : parts.length ≤ j := List.drop_eq_nil_iff.mp hdj
              obtain rfl : j = parts.length := by lia
              k_steps
              repeat' ((first | ((with_reducible refine Stop.bui "len" ?_); refine len_lst (by is_list) (by (try simp only [List.length_cons, List.length_nil]); lia) ?_; intro _ _; (try dsimp only)) | ((with_reducible refine Stop.isn ?_); refine PySem.wpAny_isNot_other (by rfl) (by intro x; cases x) ?_) | ((with_reducible refine Stop.sub ?_); first | refine item_at (by is_list) (by with_reducible assumption) (by lia) ?_ (by with_unfolding_all rfl) | refine item_atZ (by is_list) (by with_reducible assumption) (by lia) (by lia) ?_ (by with_unfolding_all rfl)) | ((with_reducible refine Stop.ldn ?_); refine PyProof.Rows.ldn (by assumption) (by wtm_at "mLK") ?_)); (try k_steps))
              all_goals first | (exfalso; lia) | skip
              unfold Stop
              (with_reducible rename Fr _ _ _ _ => Fa)
              (with_reducible rename News _ _ _ _ => Na)
              refine add_own (rest := []) Fa Na (by repeat (first | exact List.Mem.head _ | refine List.Mem.tail _ ?_)) (by repeat (first | exact List.Mem.head _ | refine List.Mem.tail _ ?_)) hbR sub_nil off_nil (by lia) ?_
              clear Fa Na
              intro h6 F6 N6
              rw [s2] at N6
              k_steps
              repeat' ((first | ((with_reducible refine Stop.bui "len" ?_); refine len_lst (by is_list) (by (try simp only [List.length_cons, List.length_nil]); lia) ?_; intro _ _; (try dsimp only)) | ((with_reducible refine Stop.isn ?_); refine PySem.wpAny_isNot_other (by rfl) (by intro x; cases x) ?_) | ((with_reducible refine Stop.sub ?_); first | refine item_at (by is_list) (by with_reducible assumption) (by lia) ?_ (by with_unfolding_all rfl) | refine item_atZ (by is_list) (by with_reducible assumption) (by lia) (by lia) ?_ (by with_unfolding_all rfl)) | ((with_reducible refine Stop.ldn ?_); refine PyProof.Rows.ldn (by assumption) (by wtm_at "mLK") ?_)); (try k_steps))
              unfold Stop
              (with_reducible rename Fr _ _ _ _ => Fa)
              (with_reducible rename News _ _ _ _ => Na)
              refine add_own (rest := []) Fa Na (by repeat (first | exact List.Mem.head _ | refine List.Mem.tail _ ?_)) (by repeat (first | exact List.Mem.head _ | refine List.Mem.tail _ ?_)) hbR sub_nil off_nil (by rw [List.length_append]; show rv.length + 1 ≤ _; lia) ?_
              clear Fa Na
              intro h7 F7 N7
              k_steps
              repeat' ((first | ((with_reducible refine Stop.bui "len" ?_); refine len_lst (by is_list) (by (try simp only [List.length_cons, List.length_nil]); lia) ?_; intro _ _; (try dsimp only)) | ((with_reducible refine Stop.isn ?_); refine PySem.wpAny_isNot_other (by rfl) (by intro x; cases x) ?_) | ((with_reducible refine Stop.sub ?_); first | refine item_at (by is_list) (by with_reducible assumption) (by lia) ?_ (by with_unfolding_all rfl) | refine item_atZ (by is_list) (by with_reducible assumption) (by lia) (by lia) ?_ (by with_unfolding_all rfl)) | ((with_reducible refine Stop.ldn ?_); refine PyProof.Rows.ldn (by assumption) (by wtm_at "mLK") ?_)); (try k_steps))
              unfold WPost
              exact WEnd.mk (n' := 0) (by assumption) (by assumption) (by lia) ⟨parts.length, _, _, ps ++ [[46, 42]] ++ [(q :: r).flatten], [], ⟨_, _, (by repeat (first | with_reducible assumption | with_reducible exact if_pos rfl | refine (if_neg (by decide)).trans ?_ | rfl)), (by repeat (first | with_reducible assumption | with_reducible exact if_pos rfl | refine (if_neg (by decide)).trans ?_ | rfl)), (by repeat (first | with_reducible assumption | with_reducible exact if_pos rfl | refine (if_neg (by decide)).trans ?_ | rfl)), (by repeat (first | with_reducible assumption | with_reducible exact if_pos rfl | refine (if_neg (by decide)).trans ?_ | rfl)), (by repeat (first | with_reducible assumption | with_reducible exact if_pos rfl | refine (if_neg (by decide)).trans ?_ | rfl)), (by repeat (first | with_reducible assumption | with_reducible exact if_pos rfl | refine (if_neg (by decide)).trans ?_ | rfl))⟩, rfl, hrv.snoc.snoc, hdj, trivial, by rw [← hw]; simp [tailR], by lia, by lia, by rw [List.length_append, List.length_append]; show rv.length + 1 + 1 ≤ _; lia⟩
            | cons r2 rs =>
              obtain ⟨v3, hv3, rfl, hj, hdj'⟩ := part_at hall (p := none) hdj
              k_steps
              repeat' ((first | ((with_reducible refine Stop.bui "len" ?_); refine len_lst (by is_list) (by (try simp only [List.length_cons, List.length_nil]); lia) ?_; intro _ _; (try dsimp only)) | ((with_reducible refine Stop.isn ?_); refine PySem.wpAny_isNot_other (by rfl) (by intro x; cases x) ?_) | ((with_reducible refine Stop.sub ?_); first | refine item_at (by is_list) (by with_reducible assumption) (by lia) ?_ (by with_unfolding_all rfl) | refine item_atZ (by is_list) (by with_reducible assumption) (by lia) (by lia) ?_ (by with_unfolding_all rfl)) | ((with_reducible refine Stop.ldn ?_); refine PyProof.Rows.ldn (by assumption) (by wtm_at "mLK") ?_)); (try k_steps))
              all_goals first | (exfalso; lia) | skip
              unfold Stop
              rw [f_txt]
              (with_reducible rename Fr _ _ _ _ => Fa)
              (with_reducible rename News _ _ _ _ => Na)
              refine add_own (rest := []) Fa Na (by repeat (first | exact List.Mem.head _ | refine List.Mem.tail _ ?_)) (by repeat (first | exact List.Mem.head _ | refine List.Mem.tail _ ?_)) hbR sub_nil off_nil (by lia) ?_
              clear Fa Na
              intro h6 F6 N6
              k_steps
              repeat' ((first | ((with_reducible refine Stop.bui "len" ?_); refine len_lst (by is_list) (by (try simp only [List.length_cons, List.length_nil]); lia) ?_; intro _ _; (try dsimp only)) | ((with_reducible refine Stop.isn ?_); refine PySem.wpAny_isNot_other (by rfl) (by intro x; cases x) ?_) | ((with_reducible refine Stop.sub ?_); first | refine item_at (by is_list) (by with_reducible assumption) (by lia) ?_ (by with_unfolding_all rfl) | refine item_atZ (by is_list) (by with_reducible assumption) (by lia) (by lia) ?_ (by with_unfolding_all rfl)) | ((with_reducible refine Stop.ldn ?_); refine PyProof.Rows.ldn (by assumption) (by wtm_at "mLK") ?_)); (try k_steps))
              unfold WPost
              exact WEnd.mk (n' := parts.length - j) (by assumption) (by assumption) (Nat.sub_lt_sub_left (by lia) (by lia)) ⟨j, _, _, ps ++ [[40, 63, 62, 46, 42, 63] ++ (q :: r).flatten ++ [41]], r2 :: rs, ⟨_, _, (by repeat (first | with_reducible assumption | with_reducible exact if_pos rfl | refine (if_neg (by decide)).trans ?_ | rfl)), (by repeat (first | with_reducible assumption | with_reducible exact if_pos rfl | refine (if_neg (by decide)).trans ?_ | rfl)), (by repeat (first | with_reducible assumption | with_reducible exact if_pos rfl | refine (if_neg (by decide)).trans ?_ | rfl)), (by repeat (first | with_reducible assumption | with_reducible exact if_pos rfl | refine (if_neg (by decide)).trans ?_ | rfl)), (by repeat (first | with_reducible assumption | with_reducible exact if_pos rfl | refine (if_neg (by decide)).trans ?_ | rfl)), (by repeat (first | with_reducible assumption | with_reducible exact if_pos rfl | refine (if_neg (by decide)).trans ?_ | rfl))⟩, rfl, hrv.snoc, hdj, hg.2, by rw [← hw]; simp [tailR], rfl, hjn, by rw [List.length_append]; show rv.length + 1 ≤ _; lia⟩
    case fin2 =>
      intro m₁ news₁ h3 tk3 hq6 F3 N3
      (try k_fold)
      obtain ⟨nr, rv, ps, ⟨tn, ti, mp, ms, ma, mr, mn, mi⟩, rfl, hrv, hw, hrl⟩ := hq6
      k_steps
      repeat' ((first | ((with_reducible refine Stop.bui "len" ?_); refine len_lst (by is_list) (by (try simp only [List.length_cons, List.length_nil]); lia) ?_; intro _ _; (try dsimp only)) | ((with_reducible refine Stop.isn ?_); refine PySem.wpAny_isNot_other (by rfl) (by intro x; cases x) ?_) | ((with_reducible refine Stop.sub ?_); first | refine item_at (by is_list) (by with_reducible assumption) (by lia) ?_ (by with_unfolding_all rfl) | refine item_atZ (by is_list) (by with_reducible assumption) (by lia) (by lia) ?_ (by with_unfolding_all rfl)) | ((with_reducible refine Stop.ldn ?_); refine PyProof.Rows.ldn (by assumption) (by wtm_at "mLK") ?_)); (try k_steps))
      unfold Stop
      refine join_call (sp := []) (News.isList (by assumption) (List.Mem.tail _ (List.Mem.head _))) hrv (by rw [← List.length_flatten, hw]; simp only [List.length_nil, Nat.mul_zero]; lia) ?_
      intro tk5 t5
      rw [joinL_nil, hw]
      have hfx : (txt whole).length ≤ 600 := by rw [txt_length]; lia
      k_steps
      repeat' ((first | ((with_reducible refine Stop.bui "len" ?_); refine len_lst (by is_list) (by (try simp only [List.length_cons, List.length_nil]); lia) ?_; intro _ _; (try dsimp only)) | ((with_reducible refine Stop.isn ?_); refine PySem.wpAny_isNot_other (by rfl) (by intro x; cases x) ?_) | ((with_reducible refine Stop.sub ?_); first | refine item_at (by is_list) (by with_reducible assumption) (by lia) ?_ (by with_unfolding_all rfl) | refine item_atZ (by is_list) (by with_reducible assumption) (by lia) (by lia) ?_ (by with_unfolding_all rfl)) | ((with_reducible refine Stop.ldn ?_); refine PyProof.Rows.ldn (by assumption) (by wtm_at "mLK") ?_)); (try k_steps))
      refine hQ _ [] _ _ (kp_of (by assumption)) Fsh.nil ⟨_, congrArg (fun x => Value.str x _) ?_⟩
      rw [show Str.empty = txt [] from rfl, show Str.ofString "(?s:" = txt [40, 63, 115, 58] by decide, show Str.ofString ")\\Z" = txt [41, 92, 90] by decide, txt_add, txt_add, txt_add]; rfl
end K_S_join
theorem S_join (w : World) (h : Heap) (pl star : Addr) (pv : List Value) (parts : List (Option (List Nat))) (r0 : List (List Nat)) (rs : List (List (List Nat))) (hS : St w h) (hl : h.IsList pl pv.toArray) (hall : All2 (PartR star) pv parts) (hlen : pv.length ≤ 50) (hparts : parts = r0.map some ++ tailO rs) (hgood : goodR rs) (hsum : (r0.flatten ++ tailR rs).length ≤ 500) : Spec w 69 [.ref pl, .ref star] 6 600 h (fun tl v => ∃ t, v = .str (txt ([40, 63, 115, 58] ++ (r0.flatten ++ tailR rs) ++ [41, 92, 90])) t) :=
  spec_of fun dp un fr gd s Q E => pickAll K_S_join.ne (P := fun c => K_S_join.P (c.1) (c.2.1) (c.2.2.1) (c.2.2.2.1) (c.2.2.2.2.1) (c.2.2.2.2.2.1) (c.2.2.2.2.2.2.1) (c.2.2.2.2.2.2.2.1) (c.2.2.2.2.2.2.2.2.1) (c.2.2.2.2.2.2.2.2.2.1) (c.2.2.2.2.2.2.2.2.2.2.1) (c.2.2.2.2.2.2.2.2.2.2.2)) K_S_join.core (w, h, pl, star, pv, dp, un, fr, gd, s, Q, E) parts r0 rs hS hl hall hlen hparts hgood hsum
end
end Mine
end
section
open PySem PySem.W PyProof.Rows PySem.Calls
set_option Elab.async false
set_option maxRecDepth 100000
set_option maxHeartbeats 4000000
namespace Mine
theorem lookup_object_new : typeLookup (.type "object") "__new__" = pure (some (.builtin "object.__new__")) := by rw [typeLookup_type, builtinLookup_eq_fast]; kernel_rfl
theorem slot_object_init : Slot "object" "__init__" "object.__init__" :=
  .of (owner := "object") (n := "__init__") (by rw [typeLookup_type, builtinLookup_eq_fast]; kernel_rfl) (by decide +kernel) (by decide +kernel) (by decide +kernel)
    (by first | exact .inl (by decide +kernel) | exact .inr (by decide +kernel)) (by rw [isSubtype_type]; kernel_rfl)
theorem called_object : TypeCalled "object" "object.__new__" "object.__init__" :=
  ⟨by decide +kernel, by decide +kernel, ⟨_, _, F.mro_object⟩, madeBy_type F.mro_object lookup_object_new (by decide +kernel), by decide +kernel, by rw [isSubtype_type]; kernel_rfl, slot_object_init⟩
theorem typeCall_object_0 : checkTypeCall "object" ⟨[], []⟩ = pure () := by kernel_rfl
theorem newCall_object_0 : checkBuiltinCall "object.__new__" ⟨[.type "object"], []⟩ = pure () := by kernel_rfl
theorem entry_object_new' : entryFor table "object.__new__" = some Builtin.«object.__new__» := entryFor_of_tree (by kernel_rfl)
theorem plain_object_new : plainId "object.__new__" = true := by decide +kernel
theorem here_object : Bind.madeHere "object.__new__" (.type "object") = pure () := by
  have h : Bind.madeBy (.type "object") = pure (some "object.__new__") := called_object.made
  have hs : Bind.staticBase (.type "object") = pure (.type "object") := by first | rfl | kernel_rfl
  unfold Bind.madeHere
  rw [hs]
  simp only [pure_bind]
  rw [h]
  simp only [pure_bind, Option.map_some, bne_self_eq_false, Bool.false_eq_true, if_false]
abbrev objStar : Obj := { cls := .type "object", data := .plain }
theorem type_object : isType (.type "object") = pure true := by first | rfl | kernel_rfl
theorem args_object_init_1 (obj : Value) : argsOk "object.__init__" ⟨[obj], []⟩ := by
  exact F.args_object_init_1 obj
section
variable {prog : Program} {w : World} {A : Around} {E : Value → Shared → Prop} {s : Shared}
theorem code_object_new {Q₁ : Value → Shared → Prop} (h : Q₁ (.ref s.heap.objs.size) { s with heap := s.heap.push objStar }) :
    codeAny (model prog w) A (.call (.builtin "object.__new__") ⟨[.type "object"], []⟩) (wants Q₁ E) s := by
  refine codeAny_of_tree ?_
  show wpAny _ A.in1 (do checkBuiltinCall "object.__new__" ⟨[.type "object"], []⟩; again (.builtin "object.__new__" ⟨[.type "object"], []⟩)) _ _ s
  refine wpAny_bind (wpAny_of_eq newCall_object_0 (wpAny_pure ⟨plainId_quiet plain_object_new _, codeAny_builtin entry_object_new' ?_⟩))
  have hn : (Manifest.find? "object").elim false (fun m => m.mro.any fun t => (Manifest.find? t).elim false (·.noNew)) = false := by decide +kernel
  have hd : typeHasDict (.type "object") = false := by decide +kernel
  have hdel : diesByItsTypesDel "object" = false := by decide +kernel
  unfold Builtin.«object.__new__»
  have e1 := here_object
  have e2 := type_object
  obtain ⟨hp, g, d, tk, os⟩ := s
  repeat (first | (with_reducible assumption) | wp_step)
  first | exact h | done
theorem call_object {Q : Value → Shared → Prop} (h : Q (.ref s.heap.objs.size) { s with heap := s.heap.push objStar }) : wpAny (model prog w) A (call (.type "object") []) Q E s := by
  refine callType_codes (Q₁ := fun obj s₁ => obj = .ref s.heap.objs.size ∧ s₁ = { s with heap := s.heap.push objStar }) called_object typeCall_object_0 F.entry_object_init
    (code_object_new ⟨rfl, rfl⟩) fun obj s₁ h₁ => ?_
  obtain ⟨rfl, rfl⟩ := h₁
  refine ⟨⟨_, Heap.get?_push_size _ rfl, rfl⟩, args_object_init_1 _, ?_⟩
  exact wpAny_pure ⟨rfl, h⟩
end
end Mine
end
section
open PySem PySem.W PyProof.Rows PySem.Calls
set_option Elab.async false
set_option maxRecDepth 100000
set_option maxHeartbeats 4000000
namespace Mine
open PyProof.Rows.LCg (NsObj ns_obj lst lst_snoc SrcAt)
section

namespace K_S_translate
def P (w : World) (h₀ : Heap) (its : List It) (size : Nat) (pat : List Nat) (tp : Tok) (r0 : List (List Nat)) (rs : List (List (List Nat))) (dp : Nat) (un : Nat) (fr : Option (List Env)) (gd : Option (List Code)) (s : Shared) (Q : Value → Shared → Prop) (E : Value → Shared → Prop) (o : Obj) : Prop :=
  ∀ (hS : St w h₀) (hp : pat = patText size its) (hlen : its.length ≤ 10) (hsz : size = 32 ∨ size = 128) (hparts : (comp its).map (partOf size) = r0.map some ++ tailO rs) (hgood : goodR rs) (hsum : (r0.flatten ++ tailR rs).length ≤ 500), SpecGAt w 43 [.str (txt pat) tp] 15 1600 h₀ 57 (TabLV 57 lp lq) (fun tl v => ∃ t, v = .str (txt ([40, 63, 115, 58] ++ (r0.flatten ++ tailR rs) ++ [41, 92, 90])) t) dp un fr gd s Q E o
theorem ne : Nonempty ((World) × (Heap) × (List It) × (Nat) × (List Nat) × (Tok) × (List (List Nat)) × (List (List (List Nat))) × (Nat) × (Nat) × (Option (List Env)) × (Option (List Code)) × (Shared) × (Value → Shared → Prop) × (Value → Shared → Prop) × (Obj)) := ⟨(w0, Classical.ofNonempty, Classical.ofNonempty, Classical.ofNonempty, Classical.ofNonempty, Classical.ofNonempty, Classical.ofNonempty, Classical.ofNonempty, Classical.ofNonempty, Classical.ofNonempty, Classical.ofNonempty, Classical.ofNonempty, {}, Classical.ofNonempty, Classical.ofNonempty, Classical.ofNonempty)⟩
noncomputable def κ : (World) × (Heap) × (List It) × (Nat) × (List Nat) × (Tok) × (List (List Nat)) × (List (List (List Nat))) × (Nat) × (Nat) × (Option (List Env)) × (Option (List Code)) × (Shared) × (Value → Shared → Prop) × (Value → Shared → Prop) × (Obj) := pick ne fun c => ¬ P (c.1) (c.2.1) (c.2.2.1) (c.2.2.2.1) (c.2.2.2.2.1) (c.2.2.2.2.2.1) (c.2.2.2.2.2.2.1) (c.2.2.2.2.2.2.2.1) (c.2.2.2.2.2.2.2.2.1) (c.2.2.2.2.2.2.2.2.2.1) (c.2.2.2.2.2.2.2.2.2.2.1) (c.2.2.2.2.2.2.2.2.2.2.2.1) (c.2.2.2.2.2.2.2.2.2.2.2.2.1) (c.2.2.2.2.2.2.2.2.2.2.2.2.2.1) (c.2.2.2.2.2.2.2.2.2.2.2.2.2.2.1) (c.2.2.2.2.2.2.2.2.2.2.2.2.2.2.2)
noncomputable def w : World := κ.1
noncomputable def h₀ : Heap := κ.2.1
noncomputable def its : List It := κ.2.2.1
noncomputable def size : Nat := κ.2.2.2.1
noncomputable def pat : List Nat := κ.2.2.2.2.1
noncomputable def tp : Tok := κ.2.2.2.2.2.1
noncomputable def r0 : List (List Nat) := κ.2.2.2.2.2.2.1
noncomputable def rs : List (List (List Nat)) := κ.2.2.2.2.2.2.2.1
noncomputable def dp : Nat := κ.2.2.2.2.2.2.2.2.1
noncomputable def un : Nat := κ.2.2.2.2.2.2.2.2.2.1
noncomputable def fr : Option (List Env) := κ.2.2.2.2.2.2.2.2.2.2.1
noncomputable def gd : Option (List Code) := κ.2.2.2.2.2.2.2.2.2.2.2.1
noncomputable def s : Shared := κ.2.2.2.2.2.2.2.2.2.2.2.2.1
noncomputable def Q : Value → Shared → Prop := κ.2.2.2.2.2.2.2.2.2.2.2.2.2.1
noncomputable def E : Value → Shared → Prop := κ.2.2.2.2.2.2.2.2.2.2.2.2.2.2.1
noncomputable def o : Obj := κ.2.2.2.2.2.2.2.2.2.2.2.2.2.2.2
noncomputable def g : Heap := less s.heap [57]
noncomputable def L : Addr := Heap.objs g |>.size
noncomputable def h₁  : Heap := (HTG (hd.heap_39 w.params) 43 w g L dp un fr gd s Q [(Str.ofString "pat", .str (txt pat) tp)] 57 o).1
noncomputable def tk  : Nat := (HTG (hd.heap_39 w.params) 43 w g L dp un fr gd s Q [(Str.ofString "pat", .str (txt pat) tp)] 57 o).2
theorem core : P w h₀ its size pat tp r0 rs dp un fr gd s Q E o := by
  intro hS hp hlen hsz hparts hgood hsum hdp hun hkp0 h00 hP0 hv0 hQ0
  w_top off
  refine fillG ?_
  k_fill
  intro _ _
  obtain ⟨X, T⟩ := St.top hS
  refine' enterPGE (K := hd.heap_39 w.params) hdp hkp0 h00 hP0 hv0 hQ0 g rfl L rfl X T TabLV.keeps [(Str.ofString "pat", .str (txt pat) tp)] ?k3 ?k4 ?k6 ?k7 ?k8 ?k9 ?k10 ?k11 h₁ rfl tk rfl ?_
  case k3 => k_is
  case k4 => k_is
  case k6 => exact rfl
  case k7 => decide
  case k8 => exact locs rfl
  case k9 => exact rfl
  case k10 => exact rfl
  case k11 => exact rfl
  intro hkp Xg Tg hgP hPL hV hQ F N
  have hL : L = g.objs.size := rfl
  have hS' : St w g := ⟨Xg, _, _, _, _, _, Tg⟩
  clear hS
  try dsimp only
  k_steps
  refine call_object ?_
  obtain ⟨h2, hh2⟩ : ∃ h2, h2 = h₁.push objStar := ⟨_, rfl⟩
  obtain ⟨star, hst⟩ : ∃ star, star = h₁.objs.size := ⟨_, rfl⟩
  have up : Kp h₁ h2 := fun b o e => hh2 ▸ Heap.get?_push_of_some _ e
  have F2 : Fr g L h2 (fun x => List.lookup x [((Str.ofString "pat"), Value.str (txt pat) tp)].reverse) := fr_after F up
  have N2 : News g L h2 [(57, o), (star, objStar)] := fun q hq => by
    simp only [List.mem_cons, List.not_mem_nil, or_false] at hq
    rcases hq with rfl | rfl
    · exact ⟨up _ _ (N _ (.head _)).1, (N _ (.head _)).2⟩
    · rw [hst, hh2]; exact ⟨Heap.get?_push_size _ rfl, Nat.ne_of_gt F.ns.lt, next_is_new F⟩
  have nst : @Ne Nat star 57 := fun e => by
    have := (N _ (.head _)).1
    rw [← e, hst] at this
    exact absurd (Heap.lt_size this) (Nat.lt_irrefl _)
  have off2 : ∀ q ∈ [(star, objStar)], q.1 ≠ 57 := fun q hq => by rw [List.mem_singleton.mp hq]; exact nst
  have V2 : TabLV 57 lp lq h2 o := TabLV.keeps _ _ _ (fun b x _ e => F2.keep b x e) hV
  show wpAny _ _ _ _ _ { s with heap := h₁.push objStar, toks := tk }
  rw [← hh2, ← hst]
  have hV0 := hV
  clear F N hh2 hst up hV
  k_steps
  rw [s46]
  unfold Stop
  (with_reducible rename Fr _ _ _ _ => F3)
  (with_reducible rename News _ _ _ _ => N3)
  have k3 : Kp g _ := F3.keep
  have kl : Kp g (less _ [57]) := fun b x e => less_get (k3 b x e) (by simp; rintro rfl; rw [hgP] at e; cases e)
  refine use_specG (P := 57) (rest := [(star, objStar)]) (S_trans w _ its size pat star tp _ (hS'.keeps kl) hp hlen hsz) rfl (by dsimp only [AA]; lia) (by dsimp only [AA]; lia) F3 N3 off2 (TabLV.keeps _ _ _ (fun b x _ e => k3 b x e) hV0) ?_
  rintro v tl h4 tk4 g4 o4 F4 N4 d4 t4 V4 ab4 ⟨l, rv, n, rfl, hm, hall⟩
  obtain ⟨ps4, xs4, rfl, T4, NX4, x57, _⟩ := V4.ledger F4
  have N4' : News g L h4 ((57, tabObj ps4) :: ((l, W.listOf rv.toArray n) :: xs4)) := fun q hq => by
    rcases List.mem_cons.mp hq with rfl | hq
    · exact N4 _ (.head _)
    · rcases List.mem_cons.mp hq with rfl | hq
      · exact N4 _ (.tail _ (List.mem_append_right _ hm))
      · exact NX4 _ hq
  have hlen4 : rv.length ≤ 50 := by
    have := hall.1
    have h5 := comp_length its
    rw [List.length_map] at this
    lia
  clear F3 N3 k3 kl N4 NX4
  k_steps
  unfold Stop
  (with_reducible rename Fr _ _ _ _ => F5)
  (with_reducible rename News _ _ _ _ => N5)
  have k5 : Kp g _ := F5.keep
  refine use_spec (S_join w _ l star rv _ r0 rs (hS'.keeps k5) (News.isList N5 (.tail _ (.head _))) hall hlen4 hparts hgood hsum) rfl (by dsimp only [AA]; lia) (by dsimp only [AA]; lia) F5 N5 ?_
  rintro v tl' h6 tk6 F6 N6 _ ⟨t', rfl⟩
  clear F5 N5
  have T6 : TabL g L ((l, W.listOf rv.toArray n) :: xs4) lp lq ps4 := T4.mono fun q hq => .tail _ hq
  refine hQ _ [] _ _ _ _ F6.keep (N6 _ (.head _)).1 (T6.v F6 fun q hq => N6 q (by
    rcases List.mem_cons.mp hq with rfl | hq
    · exact .head _
    · exact .tail _ (List.mem_append_left _ hq))) (fun _ h => (by cases h)) ab4 ⟨_, rfl⟩
end K_S_translate
theorem S_translate (w : World) (h₀ : Heap) (its : List It) (size : Nat) (pat : List Nat) (tp : Tok) (hS : St w h₀) (hp : pat = patText size its) (hlen : its.length ≤ 10) (hsz : size = 32 ∨ size = 128)
    (r0 : List (List Nat)) (rs : List (List (List Nat))) (hparts : (comp its).map (partOf size) = r0.map some ++ tailO rs) (hgood : goodR rs) (hsum : (r0.flatten ++ tailR rs).length ≤ 500) :
    SpecG w 43 [.str (txt pat) tp] 15 1600 h₀ 57 (TabLV 57 lp lq) (fun tl v => ∃ t, v = .str (txt ([40, 63, 115, 58] ++ (r0.flatten ++ tailR rs) ++ [41, 92, 90])) t) :=
  specG_of fun dp un fr gd s Q E o => pickAll K_S_translate.ne (P := fun c => K_S_translate.P (c.1) (c.2.1) (c.2.2.1) (c.2.2.2.1) (c.2.2.2.2.1) (c.2.2.2.2.2.1) (c.2.2.2.2.2.2.1) (c.2.2.2.2.2.2.2.1) (c.2.2.2.2.2.2.2.2.1) (c.2.2.2.2.2.2.2.2.2.1) (c.2.2.2.2.2.2.2.2.2.2.1) (c.2.2.2.2.2.2.2.2.2.2.2.1) (c.2.2.2.2.2.2.2.2.2.2.2.2.1) (c.2.2.2.2.2.2.2.2.2.2.2.2.2.1) (c.2.2.2.2.2.2.2.2.2.2.2.2.2.2.1) (c.2.2.2.2.2.2.2.2.2.2.2.2.2.2.2)) K_S_translate.core (w, h₀, its, size, pat, tp, r0, rs, dp, un, fr, gd, s, Q, E, o) hS hp hlen hsz hparts hgood hsum
end
end Mine
end
section
open PySem PySem.W PyProof.Rows PySem.Calls
open PyProof.Rows.LCg (NsObj ns_obj lst lst_snoc SrcAt)
set_option Elab.async false
set_option maxRecDepth 100000
set_option maxHeartbeats 4000000
namespace Mine
theorem lt_mem {D : Nat} {xs : List (Addr × Obj)} (h : AllLt D xs) : ∀ p ∈ xs, (show Nat from p.1) < D := by
  induction xs with
  | nil => exact fun _ q => nomatch q
  | cons a r ih =>
    intro p hp
    rcases List.mem_cons.mp hp with rfl | hp
    · exact h.1
    · exact ih h.2 p hp
theorem xs_off {g h : Heap} {L : Addr} {xs own : List (Addr × Obj)} {qual : Str} (NX : News g L h xs) (N : News g L h own) (hc : ∀ q ∈ xs, ∃ vs t, q.2.data = .fields vs ∧ vs[1]? = some (Value.str qual t)) {a : Addr} {o : Obj} (hp : (a, o) ∈ own) (hn : NotCode o) :
    ∀ q ∈ xs, @Ne Nat q.1 a := fun q hq => by
  obtain ⟨vs, t, h1, h2⟩ := hc q hq
  exact code_off (NX q hq).1 (N _ hp).1 ⟨vs, qual, t, h1, h2⟩ hn
theorem joinL_one {f : Nat → Nat} : ∀ (l : List Nat), joinL [] (l.map fun c => [f c]) = l.map f
  | [] => rfl
  | [c] => rfl
  | c :: d :: l => by
    have ih := joinL_one (f := f) (d :: l)
    show [f c] ++ [] ++ joinL [] ((d :: l).map fun c => [f c]) = f c :: (d :: l).map f
    rw [ih]; rfl
theorem S_takes (w : World) (h : Heap) (a : Addr) (rv : List Value) (r0 : List Piece) (rs : List (List Piece)) (name : List Nat) (tn : Tok) (hS : St w h) (hl : h.IsList a rv.toArray) (hall : All2 (RunAt h) rv (r0 :: rs)) (hlen : rs.length ≤ 100) (hnl : name.length ≤ 100) :
    Spec w 154 [.ref a, .str (txt name) tn] 12 700 h (fun tl v => v = .bool (takesB (r0 :: rs) name)) := by
  obtain ⟨hz, hg⟩ := id hall
  cases rv with
  | nil => simp at hz
  | cons v0 rv =>
    have h0 : RunAt h v0 r0 := hg 0 v0 r0 rfl rfl
    cases rs with
    | nil =>
      have : rv = [] := by simpa using hz
      subst this
      exact S_takes1 w h a v0 r0 name tn hS hl h0 hnl
    | cons r2 rs =>
      cases rv with
      | nil => simp at hz
      | cons v1 vr =>
        have h1 : All2 (RunAt h) (v1 :: vr) (r2 :: rs) := ⟨by simpa using hz, fun i x y hx hy => hg (i + 1) x y hx hy⟩
        have hvl : vr.length ≤ 100 := by
          simp only [List.length_cons] at hz hlen; lia
        exact S_takes2 w h a v0 v1 ((v0 :: v1 :: vr).getLast (by simp)) vr r0 r2 rs name tn hS hl h0 h1 (List.getLast?_eq_some_getLast _) hvl hnl
theorem runs_conv {g h : Heap} {L : Addr} {size : Nat} {tl : List (Addr × Obj)} (N : News g L h tl) {rv : List Value} {runs : List (List It)} (hr : ∀ r ∈ runs, r.length ≤ 10) (x : All2 (RunIn tl) rv (runs.map fun r => r.map (spOf size))) : All2 (RunAt h) rv (runs.map fun r => r.map (pieceOf size)) := by
  refine ⟨by rw [x.1, List.length_map, List.length_map], fun i v p hv hp => ?_⟩
  rw [List.getElem?_map] at hp
  cases e : runs[i]? with
  | none => rw [e] at hp; cases hp
  | some r =>
    rw [e] at hp; cases hp
    exact run_conv N (Nat.le_trans (hr r (List.mem_of_getElem? e)) (by decide)) (x.2 i v _ hv (by rw [List.getElem?_map, e]; rfl))
end Mine
namespace Mine
theorem sum_one {f : Nat → Nat} (l : List Nat) : ((l.map fun c => [f c]).map List.length).sum + (l.map fun c => [f c]).length * ([] : List Nat).length = l.length := by
  rw [List.length_nil, Nat.mul_zero, Nat.add_zero]
  induction l with
  | nil => rfl
  | cons x l ih => simp only [List.map_cons, List.sum_cons, ih, List.length_cons, List.length_nil]; lia
end Mine
end
section
open PySem PySem.W PyProof.Rows PySem.Calls
set_option Elab.async false
set_option maxRecDepth 100000
set_option maxHeartbeats 40000000
namespace Mine
open PySem.Spec
open PyProof.Rows.LCg (NsObj ns_obj lst lst_snoc SrcAt)

inductive PDr (base : List (Addr × Obj)) (m : Str → Option Value) (news : List (Addr × Obj)) : Prop
  | mk (dl : _) (dv : _) (n : _) (drawn : _) (h1 : m (Str.ofString "drawn") = some (.ref dl)) (h2 : news = (dl, W.listOf (List.toArray dv) n) :: base) (h3 : IntsAre dv drawn) (h4 : drawn.length ≤ 6) (h5 : (∀ x ∈ drawn, 0 ≤ x ∧ x < 1000000000000)) (h6 : ∀ p ∈ base, p.1 ≠ dl) : PDr base m news
/-- where the law's body ends -/
def LawEnd (g : Heap) (sB : Shared) (fl : Flow) (s' : Shared) : Prop :=
  fl = .ret (.bool true) ∧ ∃ h' tk' g', s' = { sB with heap := h', toks := tk', gens := g' } ∧ Kp g h' ∧ (∃ ps, h'.get? 113 = some (tabObj ps)) ∧ (∃ ps, h'.get? 57 = some (tabObj ps)) ∧ (AllBare sB.gens → AllBare g')

section
local macro_rules | `(tactic| walk_at "execs cons") => `(tactic| wtm_at "mXC")
local macro_rules | `(tactic| walk_at "binaryOp Pow int int") => `(tactic| with_reducible refine Mine.pow12 ?_)
local macro_rules | `(tactic| walk_at "compareOp Eq ref ref") => `(tactic| wtm_at "mS")
local macro_rules | `(tactic| walk_at "eval Name") => `(tactic| wtm_at "mNC")
local macro_rules | `(tactic| walk_at "eval ListComp") => `(tactic| with_reducible first | refine Mine.StopLC 215 ?_ | refine Mine.StopLC 216 ?_)
local macro_rules | `(tactic| walk_at "exec Assign") => `(tactic| with_reducible first | refine Mine.StopA 209 ?_ | refine Mine.StopA 210 ?_ | refine Mine.StopA 211 ?_)


def extr5 {A B C D E : Type} {G : Prop} {P : A → B → C → D → E → Prop} (_ : (∀ a b c d e, P a b c d e) → G) : A → B → C → D → E → Prop := P
namespace K_law
noncomputable def P : World → Shared → Shared → (Str → Option Value) → (Str → Option Value) → Prop := extr5 hd
theorem ne : Nonempty (World × Shared × Shared × (Str → Option Value) × (Str → Option Value)) := ⟨(w0, {}, {}, Classical.ofNonempty, Classical.ofNonempty)⟩
noncomputable def κ : World × Shared × Shared × (Str → Option Value) × (Str → Option Value) := pick ne fun c => ¬ P c.1 c.2.1 c.2.2.1 c.2.2.2.1 c.2.2.2.2
noncomputable def w : World := κ.1
noncomputable def s₀ : Shared := κ.2.1
noncomputable def s₁ : Shared := κ.2.2.1
noncomputable def mg : Str → Option Value := κ.2.2.2.1
noncomputable def mb : Str → Option Value := κ.2.2.2.2
noncomputable def pre : PSigma fun ττ : (Addr) → (Value) → (Obj) → (Heap) → (Nat) → (Str → Option Value) → (Addr) → (List Value) → (Nat) → (List Int) → (Addr) → (List Value) → (List (Addr × Obj)) → (Addr) → (List Value) → (Nat) → (Heap) → (Heap) → (Addr) → (Addr) → (Addr) → (Tok) → (Tok) → (Nat) → (Str → Option Value) → (Heap) → (Nat) → (Array GenState) → (Addr) → (Obj) → (Array Value) → (Array Value) → (Obj) → (List Bool) → (Nat) → (Nat) → (Nat) → (Nat) → (Nat) → (List (Addr × Obj)) → (Option Value) → (Nat) → (Tok) → (Heap) → (Obj) → Prop => (∀ fa cd o0 g L m₁ dl dv nd drawn il iv nw cl cv tk9 hz6 hz7 tp D T ta tb i m₂ h10 tk10 g10 I oI ps1 ps2 co bs n1 n2 n3 n4 n5 X vco size tz h11 co2, ττ fa cd o0 g L m₁ dl dv nd drawn il iv nw cl cv tk9 hz6 hz7 tp D T ta tb i m₂ h10 tk10 g10 I oI ps1 ps2 co bs n1 n2 n3 n4 n5 X vco size tz h11 co2) → P w s₀ s₁ mg mb := ⟨_, fun turn => by
  unfold P extr5
  k_fill
  intro G Y fa o pm cd doc dV kV ho hd hcd hD hmg hg args vals as hpre hlay hrd hwl hlo
  have KX := km_in_of Y
  km_tabs Y
  have X := (Ground.X G).1
  have V := (Ground.X G).2
  refine Ground.open G ?_
  intro T B D TE TW
  try (refine guard_noD D (by decide +kernel) ?_; clear D)
  km_lay T hmg ho hd cd
  clear hmg
  wrow_args hpre hlay hrd hwl hlo
  all_goals (
    first | refine callC_kw (enter_call ?_) | refine enter_call ?_
    w_top on
    refine my_post hT9 (fun _ _ => rfl) ?_
    w_call any ho hd hcd hD T F
    clear hd
    kn_ghosts F T
    k_drop
    skip)
  clear hD hcd ho V B TE TW hT8
  (with_reducible rename IntsAre _ _ => hI)
  (with_reducible rename Fr _ _ _ _ => F)
  (with_reducible rename News _ _ _ _ => N)
  (with_reducible rename CellsAre _ _ _ => hCe)
  (with_reducible rename Frag.In _ _ => Xg)
  (with_reducible rename Top topProg _ _ _ _ _ => Tg)
  refine wpAny_noRaise (wpAny_mono (Q := fun fl s' => Hold (LawEnd (ghostOf s₁.heap [(115, 113), (61, 57)]) s₁ fl s')) ?walk ?fin (fun _ _ e => e))
  case fin =>
    intro fl s' hq1
    (try k_fold)
    obtain ⟨rfl, h', tk', g', rfl, kp, ⟨ps1, e1⟩, ⟨ps2, e2⟩, ab⟩ := hq1
    exact ⟨⟨.inl ⟨_, _, [], rfl, fun _ => rfl, ReadsW.bool true, (by first | rfl | with_unfolding_all rfl | wrow_post), fun _ => ⟨List.nodup_nil, fun _ hm => nomatch hm⟩⟩, kp, rfl, rfl⟩, ab (AllBare.of_eq hg), ⟨⟨ps1, e1⟩, ⟨ps2, e2⟩, trivial⟩⟩
  case walk =>
  have hP113 : _ := N _ (.tail _ (.head _))
  have hP57 : _ := N _ (.tail _ (.tail _ (.head _)))
  clear hg T hT9 X
  try clear G Y
  generalize ghostOf s₁.heap [(115, 113), (61, 57)] = g at *
  generalize hLs : s₁.heap.objs.size = L at *
  rename_i script hs' hlay' hL1 hr1 hl2' wa wb sl svs wc hLl hra hw1 hr0 hr' hcond hcond2 h1 tk1 o0 K' cH115 hd0 l0
  clear hs' hlay' hL1 hr1 hl2' wa wb hLl hra hw1 hr0 hr' hcond2
  replace hd0 : o0.data = .cell none := hd0
  replace F : Fr g L h1 (fun y => if y = Str.ofString "script" then some (.ref sl) else none) := F
  clear hCe
  replace cH115 : CodeHd g 115 113 := cH115
  replace codeHd : CodeHd g 61 57 := codeHd
  replace hP113 : g.get? 113 = none := hP113.2.2
  replace hP57 : g.get? 57 = none := hP57.2.2
  have hS' : St w g := ⟨Xg, _, _, _, _, _, Tg⟩
  have hdp : callerA.depth + 1 + 50 < recursionLimit := by decide
  have hun : callerA.units + 3 + 2000 < cLine := by decide
  show wpAny (model MP w) (AA _ _ _ _) _ _ _ _
  k_steps
  unfold Stop
  refine stmt_cut (h₀ := g) (L := L) (PDr [(L + 1, o0), (113, tabObj #[]), (57, tabObj #[])]) ?_ ?_
  · refine wpAny_Assign_Name ?_
    k_steps
    · (with_reducible rename Fr _ _ _ _ => Fz)
      (with_reducible rename News _ _ _ _ => Nz)
      (repeat (with_reducible rename _ ∧ _ => qq; have zq1 := And.left qq; have zq2 := And.right qq; clear qq))
      exact CutE.mk Fz (fun q hq => Nz q (sub_cons (by repeat (first | exact List.Mem.head _ | refine List.Mem.tail _ ?_)) (sub_cons (by repeat (first | exact List.Mem.head _ | refine List.Mem.tail _ ?_)) (sub_cons (by repeat (first | exact List.Mem.head _ | refine List.Mem.tail _ ?_)) (sub_cons (by repeat (first | exact List.Mem.head _ | refine List.Mem.tail _ ?_)) sub_nil))) q hq)) ⟨_, _, _, _, (by repeat (first | with_reducible assumption | with_reducible exact if_pos rfl | refine (if_neg (by decide)).trans ?_ | rfl)), rfl, by assumption, by simp only [List.length_map, List.length_take]; lia, fun x hx => by
        obtain ⟨k', _, rfl⟩ := List.mem_map.mp hx
        exact ⟨Int.fmod_nonneg_of_pos _ (by decide), Int.fmod_lt_of_pos _ (by decide)⟩, off_cons (by lia) (off_cons (by lia) (off_cons (by lia) off_nil))⟩
    · (with_reducible rename Fr _ _ _ _ => Fz)
      (with_reducible rename News _ _ _ _ => Nz)
      (repeat (with_reducible rename _ ∧ _ => qq; have zq1 := And.left qq; have zq2 := And.right qq; clear qq))
      exact CutE.mk Fz (fun q hq => Nz q (sub_cons (by repeat (first | exact List.Mem.head _ | refine List.Mem.tail _ ?_)) (sub_cons (by repeat (first | exact List.Mem.head _ | refine List.Mem.tail _ ?_)) (sub_cons (by repeat (first | exact List.Mem.head _ | refine List.Mem.tail _ ?_)) (sub_cons (by repeat (first | exact List.Mem.head _ | refine List.Mem.tail _ ?_)) sub_nil))) q hq)) ⟨_, _, _, [340, 16, 137456676423, 8, 134218458], (by repeat (first | with_reducible assumption | with_reducible exact if_pos rfl | refine (if_neg (by decide)).trans ?_ | rfl)), rfl, .cons _ _ (.cons _ _ (.cons _ _ (.cons _ _ (.cons _ _ .nil)))), by decide, by decide, off_cons (by lia) (off_cons (by lia) (off_cons (by lia) off_nil))⟩
  intro m₁ news₁ h2 tk2 hq2 F2 N2
  (try k_fold)
  obtain ⟨dl, dv, nd, drawn, md, rfl, hID, hdlen, hrng, offD⟩ := hq2
  clear F N hI hcond lifted
  dsimp only
  k_steps
  unfold Stop
  (with_reducible rename Fr _ _ _ _ => Fx)
  (with_reducible rename News _ _ _ _ => Nx)
  have hdvl : dv.length = drawn.length := hID.length
  have ndD1 : @Ne Nat (L + 1) dl := offD _ (.head _)
  have nd113 : @Ne Nat 113 dl := offD _ (.tail _ (.head _))
  have nd57 : @Ne Nat 57 dl := offD _ (.tail _ (.tail _ (.head _)))
  refine my_comp_list_assign0 Fx (by rfl) rfl (by rfl) (by with_unfolding_all rfl) (by decide) (by rfl) (by decide) (by intro _; rfl) (by rfl) (by rfl) (by intro _ _; rfl) ?_
  walk1
  refine ex4 dl dv _ (fun j ys news => ∃ nw, news = [(dl, W.listOf (List.toArray dv) nd), (L + 1, o0), (113, tabObj #[]), (57, tabObj #[])] ++ nw ∧ (∀ p ∈ nw, p.1 ≠ dl ∧ p.1 ≠ L + 1 ∧ p.1 ≠ 113 ∧ p.1 ≠ 57) ∧ ys.length ≤ j ∧ All2 (ItIn nw) ys ((drawn.take j).map itOf)) ⟨rfl, ⟨by assumption, by assumption, len_le rfl (by lia), ⟨[], rfl, fun _ h => (by cases h), Nat.le_refl _, All2.nil⟩, ?_, ?_⟩, ?_⟩
  · intro j ys news hq3
    (try k_fold)
    obtain ⟨nw, rfl, _, hy, _⟩ := hq3
    exact ⟨hy, .inr ⟨_, .head _, rfl, _, rfl⟩⟩
  · intro j v ys news C oC D I' oI' h5 tk5 hv5 hq4 cs hoff
    (try k_fold)
    obtain ⟨nw, rfl, offn, hy5, hi5⟩ := hq4
    obtain ⟨x, tx, rfl, hx⟩ := hID.at j v hv5
    refine comp_name rfl rfl cs ?_
    intro h6 tk6 oC6 mC6 cs6 ho6 hm6
    obtain ⟨F6, N6, off6, cd6, _⟩ := cs6
    clear cs Fx Nx
    k_steps
    unfold Stop
    (with_reducible rename Fr _ _ _ _ => Fy)
    (with_reducible rename News _ _ _ _ => Ny)
    refine use_spec (S_item w _ x tx (hS'.keeps (kp_of Fy))) rfl (by dsimp only [AA]; lia) (by dsimp only [AA]; lia) Fy Ny ?_
    clear Fy Ny
    intro v7 tl7 h7 tk7 F7 N7 O7 hR7
    k_steps
    refine CEndI.grow F7 N7 O7 off6 cd6 ho6 hoff ⟨nw ++ tl7, by simp only [List.append_assoc], fun p hp => ?_, by rw [List.length_append]; exact Nat.succ_le_succ hy5, ?_⟩
    · rcases List.mem_append.mp hp with hp | hp
      · exact offn p hp
      · exact ⟨O7 p hp _ (by repeat (first | exact List.Mem.head _ | refine List.Mem.tail _ ?_)), O7 p hp _ (by repeat (first | exact List.Mem.head _ | refine List.Mem.tail _ ?_)), O7 p hp _ (by repeat (first | exact List.Mem.head _ | refine List.Mem.tail _ ?_)), O7 p hp _ (by repeat (first | exact List.Mem.head _ | refine List.Mem.tail _ ?_))⟩
    · rw [take_snoc hx, List.map_append]
      exact All2.snoc (hi5.mono fun _ _ q => q.mono fun p hp => List.mem_append_left _ hp) (hR7.mono fun p hp => List.mem_append_right _ hp)
  intro il iv news h8 tk8 hq5 F8 N8 off8
  (try k_fold)
  obtain ⟨nw, rfl, offn, _, hits⟩ := hq5
  rw [hdvl, List.take_length] at hits
  clear Fx Nx
  dsimp only
  k_steps
  unfold Stop
  (with_reducible rename Fr _ _ _ _ => Fx)
  (with_reducible rename News _ _ _ _ => Nx)
  have hcok1 := (codes_ok drawn).1
  have hcok2 := (codes_ok drawn).2
  refine comp_two_assign (l := dl) (vs := dv) (fun i ys => IntsAre ys (((drawn.take i).flatMap codesOf).map fun c : Nat => (c : Int))) Fx Nx (by rfl) rfl (by rfl) (by with_unfolding_all rfl) (by decide) (by rfl) (by decide) (by intro _; rfl) (by intro _ _; rfl) (by rfl) (by rfl) (by decide) (by rfl) (by rfl) (by repeat (first | exact List.Mem.head _ | refine List.Mem.tail _ ?_)) (fun Q' q' => nameX_L Fx (by repeat (first | with_reducible assumption | with_reducible exact if_pos rfl | refine (if_neg (by decide)).trans ?_)) q') .nil ?len ?turn ?last
  case len =>
    intro i ys hi
    have := (codes_ok (drawn.take i)).1
    have h3 := hi.length
    rw [List.length_map] at h3
    rw [List.length_take] at this
    lia
  case turn =>
    intro i v ys C oC D I oI h9 tk9 mC hv hJ cs ho hm
    obtain ⟨x, tx, rfl, hx⟩ := hID.at i v hv
    obtain ⟨F9, N9, off9, cd9, _⟩ := cs
    clear Fx Nx
    have hxr := hrng x (List.mem_of_getElem? hx)
    k_steps
    unfold Stop
    (with_reducible rename Fr _ _ _ _ => Fy)
    (with_reducible rename News _ _ _ _ => Ny)
    refine S_codes w _ x tx (hS'.keeps (kp_of Fy)) hxr.1 hxr.2 _ _ _ _ rfl (by dsimp only [AA]; lia) (by dsimp only [AA]; lia) rfl ?_
    intro v10 tl10 h10 tk10 kp10 fs10 hR10
    k_steps
    obtain ⟨l2, vs2, n2, rfl, hm2, hi2⟩ := hR10
    refine ⟨l2, vs2, tl10, _, _, n2, rfl, rfl, kp10, fs10, hm2, ?_⟩
    show IntsAre _ _
    rw [codes_snoc hx, List.map_append]
    exact ints_app hJ hi2
  case last =>
  intro cl cv h9 tk9 hJ9 F9 N9 off9
  rw [hdvl, List.take_length] at hJ9
  clear Fx Nx
  k_steps
  unfold Stop
  refine my_forT (h₀ := g) (L := L) (by rfl) (by intro _; rfl) ?_
  k_steps
  unfold Hold
  (with_reducible rename Fr _ _ _ _ => Fx)
  (with_reducible rename News _ _ _ _ => Nx)
  rename_i hz6 Dz hz7 lz
  refine new_first4 Nx ?_
  intro tp tt D T htp htt hD hT
  subst htp htt hD hT
  (repeat (with_reducible rename _ ∧ _ => qq; have zq1 := And.left qq; have zq2 := And.right qq; clear qq))
  have oT : ∀ p ∈ nw, p.1 ≠ T := fun p hp => lt_off (by assumption) p (List.mem_append_right [(dl, W.listOf (List.toArray dv) nd), (L + 1, o0), (113, tabObj #[]), (57, tabObj #[])] hp)
  have oD : ∀ p ∈ nw, p.1 ≠ D := fun p hp => lt_off (by assumption) p (List.mem_append_right [(dl, W.listOf (List.toArray dv) nd), (L + 1, o0), (113, tabObj #[]), (57, tabObj #[])] hp)
  have otp : ∀ p ∈ nw, p.1 ≠ tp := fun p hp => lt_off (by assumption) p (List.mem_append_right [(dl, W.listOf (List.toArray dv) nd), (L + 1, o0), (113, tabObj #[]), (57, tabObj #[])] hp)
  have n1' : @Ne Nat T D := by lia
  have z0 : @LT.lt Nat _ T tp := by first | assumption | lia
  have z1 : @LT.lt Nat _ D tp := by first | assumption | lia
  have z2 : @LT.lt Nat _ cl tp := by first | assumption | lia
  have z3 : @LT.lt Nat _ il tp := by first | assumption | lia
  have z4 : @LT.lt Nat _ T D := by first | assumption | lia
  have z5 : @LT.lt Nat _ cl D := by first | assumption | lia
  have z6 : @LT.lt Nat _ il D := by first | assumption | lia
  have z7 : @LT.lt Nat _ cl T := by first | assumption | lia
  have z8 : @LT.lt Nat _ il T := by first | assumption | lia
  have z9 : @LT.lt Nat _ 113 L := by first | assumption | lia
  have z10 : @LT.lt Nat _ 57 L := by first | assumption | lia
  have n3' : @Ne Nat il cl := off9 _ (.head _)
  have i1 : @Ne Nat 113 il := off8 _ (.tail _ (.tail _ (.head _)))
  have i2 : @Ne Nat 57 il := off8 _ (.tail _ (.tail _ (.tail _ (.head _))))
  have i3 : @Ne Nat (L + 1) il := off8 _ (.tail _ (.head _))
  have c1 : @Ne Nat 113 cl := off9 _ (.tail _ (.tail _ (.tail _ (.head _))))
  have c2 : @Ne Nat 57 cl := off9 _ (.tail _ (.tail _ (.tail _ (.tail _ (.head _)))))
  have c3 : @Ne Nat (L + 1) cl := off9 _ (.tail _ (.tail _ (.head _)))
  have lT : (L : Nat) + 1 < T := lt_mem (by assumption) (L + 1, o0) (.tail _ (.head _))
  refine exE7 (law_ledger Nx) ?_
  intro ta tb n1 n2 n3 n4 n5 NL
  refine ⟨tp, [.int 32 ta, .int 128 tb], LJ g L T D il cl iv cv (drawn.map itOf) (drawn.flatMap codesOf) tp [.int 32 ta, .int 128 tb], _, _, rfl, Fx, NL, ?first, ?src, ?turn, ?last⟩
  case first => exact ⟨#[], #[], o0, [], _, _, _, _, _, nw, none, ⟨(by repeat (first | with_reducible assumption | with_reducible exact if_pos rfl | refine (if_neg (by decide)).trans ?_ | rfl)), (by repeat (first | with_reducible assumption | with_reducible exact if_pos rfl | refine (if_neg (by decide)).trans ?_ | rfl)), (by repeat (first | with_reducible assumption | with_reducible exact if_pos rfl | refine (if_neg (by decide)).trans ?_ | rfl)), (by repeat (first | with_reducible assumption | with_reducible exact if_pos rfl | refine (if_neg (by decide)).trans ?_ | rfl))⟩, rfl, hd0, .inl rfl, ⟨trivial, .inl rfl⟩, hits, fun p hp => ⟨(offn p hp).2.2.1, (offn p hp).2.2.2, (offn p hp).2.1, oT p hp, oD p hp, off8 p (List.mem_append_right _ hp), off9 p (.tail _ (List.mem_append_right _ hp)), otp p hp⟩, rfl⟩
  case src =>
    intro i m news hq6
    (try k_fold)
    obtain ⟨ps1, ps2, co, bs, n1, n2, n3, n4, n5, X, vco, _, rfl, _⟩ := hq6
    exact ⟨n5, (by repeat (first | exact List.Mem.head _ | refine List.Mem.tail _ ?_))⟩
  case last =>
    intro m₃ news₃ h12 tk12 gL hq19 ab12 F12 N12
    (try k_fold)
    obtain ⟨ps1, ps2, co, bs, n1, n2, n3, n4, n5, X, vco, ⟨mi, mc, mt, md2⟩, rfl, hco, tok1, tok2, hitX, offX, hbl⟩ := hq19
    clear Fx Nx NL
    k_steps
    unfold Stop
    (with_reducible rename Fr _ _ _ _ => Fy)
    (with_reducible rename News _ _ _ _ => Ny)
    refine same_bools (News.isList Ny (by repeat (first | exact List.Mem.head _ | refine List.Mem.tail _ ?_))) (News.isList Ny (by repeat (first | exact List.Mem.head _ | refine List.Mem.tail _ ?_))) (by dsimp only [AA]; lia) ?_
    k_steps
    (with_reducible rename Fr _ _ _ _ => Fz)
    (with_reducible rename News _ _ _ _ => Nz)
    exact ⟨rfl, _, _, _, rfl, kp_of Fz, ⟨ps1, (Nz (113, _) (by repeat (first | exact List.Mem.head _ | refine List.Mem.tail _ ?_))).1⟩, ⟨ps2, (Nz (57, _) (by repeat (first | exact List.Mem.head _ | refine List.Mem.tail _ ?_))).1⟩, ab12⟩
    
  case turn =>
    intro i v m₂ news₂ h10 tk10 g10 I oI hv hoI hq7 ab10 F10 N10 offI
    obtain ⟨ps1, ps2, co, bs, n1, n2, n3, n4, n5, X, vco, ⟨mi, mc, mt, md2⟩, rfl, hco, tok1, tok2, hitX, offX, hbl⟩ := hq7
    clear Fx Nx NL
    obtain ⟨size, tz, rfl, hsz⟩ : ∃ (size : Nat) (tz : Tok), v = .int (size : Int) tz ∧ (size = 32 ∨ size = 128) := by
      rcases i with _ | _ | i
      · cases hv; exact ⟨32, _, rfl, .inl rfl⟩
      · cases hv; exact ⟨128, _, rfl, .inr rfl⟩
      · simp at hv
    have hpos : 0 < size := by rcases hsz with q | q <;> rw [q] <;> decide
    have hi2 : i < 2 := (List.getElem?_eq_some_iff.mp hv).1
    clear hv
    refine wpAny_assign_Name ?_
    have hI113 : @Ne Nat 113 I := offI _ (.head _)
    have hI57 : @Ne Nat 57 I := offI _ (.tail _ (.head _))
    have hIL : @Ne Nat (L + 1) I := offI _ (.tail _ (.tail _ (.head _)))
    have hIT : @Ne Nat T I := offI _ (.tail _ (.tail _ (.tail _ (.head _))))
    have hID' : @Ne Nat D I := offI _ (.tail _ (.tail _ (.tail _ (.tail _ (.head _)))))
    have hIil : @Ne Nat il I := offI _ (.tail _ (.tail _ (.tail _ (.tail _ (.tail _ (.head _))))))
    have hIcl : @Ne Nat cl I := offI _ (.tail _ (.tail _ (.tail _ (.tail _ (.tail _ (.tail _ (.head _)))))))
    have hItp : @Ne Nat tp I := offI _ (.tail _ (.tail _ (.tail _ (.tail _ (.tail _ (.tail _ (.tail _ (.head _))))))))
    have hIX : ∀ p ∈ X, p.1 ≠ I := fun p hp => offI p (.tail _ (.tail _ (.tail _ (.tail _ (.tail _ (.tail _ (.tail _ (.tail _ (hp)))))))))
    have xoff : ∀ {D' : Addr}, (∀ p ∈ X, p.1 ≠ D') → ∀ p ∈ X, p.1 ≠ D' := fun h => h
    refine storeX_C (c := L + 1) (news := ((L + 1, co) :: (113, tabObj ps1) :: (57, tabObj ps2) :: (I, oI) :: (T, W.listOf (List.toArray (bs.map Value.bool)) n1) :: (D, W.listOf (List.toArray (bs.map Value.bool)) n2) :: (il, W.listOf (List.toArray iv) n3) :: (cl, W.listOf (List.toArray cv) n4) :: (tp, tupObj (List.toArray [.int 32 ta, .int 128 tb]) n5) :: X)) F10 (fun q hq => N10 q (sub_cons (by repeat (first | exact List.Mem.head _ | refine List.Mem.tail _ ?_)) (sub_cons (by repeat (first | exact List.Mem.head _ | refine List.Mem.tail _ ?_)) (sub_cons (by repeat (first | exact List.Mem.head _ | refine List.Mem.tail _ ?_)) (sub_cons (by repeat (first | exact List.Mem.head _ | refine List.Mem.tail _ ?_)) (sub_cons (by repeat (first | exact List.Mem.head _ | refine List.Mem.tail _ ?_)) (sub_cons (by repeat (first | exact List.Mem.head _ | refine List.Mem.tail _ ?_)) (sub_cons (by repeat (first | exact List.Mem.head _ | refine List.Mem.tail _ ?_)) (sub_cons (by repeat (first | exact List.Mem.head _ | refine List.Mem.tail _ ?_)) (sub_cons (by repeat (first | exact List.Mem.head _ | refine List.Mem.tail _ ?_)) ((fun p hp => by repeat (first | exact hp | refine List.Mem.tail _ ?_))))))))))) q hq)) (by with_unfolding_all rfl) (.head (off_cons (by first | assumption | exact Ne.symm (by assumption) | lia) (off_cons (by first | assumption | exact Ne.symm (by assumption) | lia) (off_cons (by first | assumption | exact Ne.symm (by assumption) | lia) (off_cons (by first | assumption | exact Ne.symm (by assumption) | lia) (off_cons (by first | assumption | exact Ne.symm (by assumption) | lia) (off_cons (by first | assumption | exact Ne.symm (by assumption) | lia) (off_cons (by first | assumption | exact Ne.symm (by assumption) | lia) (off_cons (by first | assumption | exact Ne.symm (by assumption) | lia) (fun p hp => (offX p hp).2.2.1)))))))))) hco ?_
    clear F10 N10
    intro h11 co2 F11 N11 hco2
    (try dsimp +zetaDelta only)
    revert Xg Tg K' hLs hd0 cH115 codeHd hP113 hP57 hS' hdp hun md hID hdlen hrng offD hdvl ndD1 nd113 nd57 off8 offn hits hcok1 hcok2 hJ9 off9 zq1 zq2 oT oD otp n1' z0 z1 z2 z3 z4 z5 z6 z7 z8 z9 z10 n3' i1 i2 i3 c1 c2 c3 lT hoI ab10 hco tok1 tok2 hitX offX hbl mi mc mt md2 offI hsz hpos hi2 hI113 hI57 hIL hIT hID' hIil hIcl hItp hIX xoff F11 N11 hco2
    exact turn fa cd o0 g L m₁ dl dv nd drawn il iv nw cl cv tk9 hz6 hz7 tp D T ta tb i m₂ h10 tk10 g10 I oI ps1 ps2 co bs n1 n2 n3 n4 n5 X vco size tz h11 co2⟩
namespace T1
theorem ne : Nonempty ((Addr) × (Value) × (Obj) × (Heap) × (Nat) × (Str → Option Value) × (Addr) × (List Value) × (Nat) × (List Int) × (Addr) × (List Value) × (List (Addr × Obj)) × (Addr) × (List Value) × (Nat) × (Heap) × (Heap) × (Addr) × (Addr) × (Addr) × (Tok) × (Tok) × (Nat) × (Str → Option Value) × (Heap) × (Nat) × (Array GenState) × (Addr) × (Obj) × (Array Value) × (Array Value) × (Obj) × (List Bool) × (Nat) × (Nat) × (Nat) × (Nat) × (Nat) × (List (Addr × Obj)) × (Option Value) × (Tok) × (Heap) × (Obj)) := ⟨(Classical.ofNonempty, Classical.ofNonempty, Classical.ofNonempty, Classical.ofNonempty, Classical.ofNonempty, Classical.ofNonempty, Classical.ofNonempty, Classical.ofNonempty, Classical.ofNonempty, Classical.ofNonempty, Classical.ofNonempty, Classical.ofNonempty, Classical.ofNonempty, Classical.ofNonempty, Classical.ofNonempty, Classical.ofNonempty, Classical.ofNonempty, Classical.ofNonempty, Classical.ofNonempty, Classical.ofNonempty, Classical.ofNonempty, Classical.ofNonempty, Classical.ofNonempty, Classical.ofNonempty, Classical.ofNonempty, Classical.ofNonempty, Classical.ofNonempty, Classical.ofNonempty, Classical.ofNonempty, Classical.ofNonempty, Classical.ofNonempty, Classical.ofNonempty, Classical.ofNonempty, Classical.ofNonempty, Classical.ofNonempty, Classical.ofNonempty, Classical.ofNonempty, Classical.ofNonempty, Classical.ofNonempty, Classical.ofNonempty, Classical.ofNonempty, Classical.ofNonempty, Classical.ofNonempty, Classical.ofNonempty)⟩
noncomputable def κ : (Addr) × (Value) × (Obj) × (Heap) × (Nat) × (Str → Option Value) × (Addr) × (List Value) × (Nat) × (List Int) × (Addr) × (List Value) × (List (Addr × Obj)) × (Addr) × (List Value) × (Nat) × (Heap) × (Heap) × (Addr) × (Addr) × (Addr) × (Tok) × (Tok) × (Nat) × (Str → Option Value) × (Heap) × (Nat) × (Array GenState) × (Addr) × (Obj) × (Array Value) × (Array Value) × (Obj) × (List Bool) × (Nat) × (Nat) × (Nat) × (Nat) × (Nat) × (List (Addr × Obj)) × (Option Value) × (Tok) × (Heap) × (Obj) := pick ne fun c => ¬ ∀ size, pre.1 (c.1) (c.2.1) (c.2.2.1) (c.2.2.2.1) (c.2.2.2.2.1) (c.2.2.2.2.2.1) (c.2.2.2.2.2.2.1) (c.2.2.2.2.2.2.2.1) (c.2.2.2.2.2.2.2.2.1) (c.2.2.2.2.2.2.2.2.2.1) (c.2.2.2.2.2.2.2.2.2.2.1) (c.2.2.2.2.2.2.2.2.2.2.2.1) (c.2.2.2.2.2.2.2.2.2.2.2.2.1) (c.2.2.2.2.2.2.2.2.2.2.2.2.2.1) (c.2.2.2.2.2.2.2.2.2.2.2.2.2.2.1) (c.2.2.2.2.2.2.2.2.2.2.2.2.2.2.2.1) (c.2.2.2.2.2.2.2.2.2.2.2.2.2.2.2.2.1) (c.2.2.2.2.2.2.2.2.2.2.2.2.2.2.2.2.2.1) (c.2.2.2.2.2.2.2.2.2.2.2.2.2.2.2.2.2.2.1) (c.2.2.2.2.2.2.2.2.2.2.2.2.2.2.2.2.2.2.2.1) (c.2.2.2.2.2.2.2.2.2.2.2.2.2.2.2.2.2.2.2.2.1) (c.2.2.2.2.2.2.2.2.2.2.2.2.2.2.2.2.2.2.2.2.2.1) (c.2.2.2.2.2.2.2.2.2.2.2.2.2.2.2.2.2.2.2.2.2.2.1) (c.2.2.2.2.2.2.2.2.2.2.2.2.2.2.2.2.2.2.2.2.2.2.2.1) (c.2.2.2.2.2.2.2.2.2.2.2.2.2.2.2.2.2.2.2.2.2.2.2.2.1) (c.2.2.2.2.2.2.2.2.2.2.2.2.2.2.2.2.2.2.2.2.2.2.2.2.2.1) (c.2.2.2.2.2.2.2.2.2.2.2.2.2.2.2.2.2.2.2.2.2.2.2.2.2.2.1) (c.2.2.2.2.2.2.2.2.2.2.2.2.2.2.2.2.2.2.2.2.2.2.2.2.2.2.2.1) (c.2.2.2.2.2.2.2.2.2.2.2.2.2.2.2.2.2.2.2.2.2.2.2.2.2.2.2.2.1) (c.2.2.2.2.2.2.2.2.2.2.2.2.2.2.2.2.2.2.2.2.2.2.2.2.2.2.2.2.2.1) (c.2.2.2.2.2.2.2.2.2.2.2.2.2.2.2.2.2.2.2.2.2.2.2.2.2.2.2.2.2.2.1) (c.2.2.2.2.2.2.2.2.2.2.2.2.2.2.2.2.2.2.2.2.2.2.2.2.2.2.2.2.2.2.2.1) (c.2.2.2.2.2.2.2.2.2.2.2.2.2.2.2.2.2.2.2.2.2.2.2.2.2.2.2.2.2.2.2.2.1) (c.2.2.2.2.2.2.2.2.2.2.2.2.2.2.2.2.2.2.2.2.2.2.2.2.2.2.2.2.2.2.2.2.2.1) (c.2.2.2.2.2.2.2.2.2.2.2.2.2.2.2.2.2.2.2.2.2.2.2.2.2.2.2.2.2.2.2.2.2.2.1) (c.2.2.2.2.2.2.2.2.2.2.2.2.2.2.2.2.2.2.2.2.2.2.2.2.2.2.2.2.2.2.2.2.2.2.2.1) (c.2.2.2.2.2.2.2.2.2.2.2.2.2.2.2.2.2.2.2.2.2.2.2.2.2.2.2.2.2.2.2.2.2.2.2.2.1) (c.2.2.2.2.2.2.2.2.2.2.2.2.2.2.2.2.2.2.2.2.2.2.2.2.2.2.2.2.2.2.2.2.2.2.2.2.2.1) (c.2.2.2.2.2.2.2.2.2.2.2.2.2.2.2.2.2.2.2.2.2.2.2.2.2.2.2.2.2.2.2.2.2.2.2.2.2.2.1) (c.2.2.2.2.2.2.2.2.2.2.2.2.2.2.2.2.2.2.2.2.2.2.2.2.2.2.2.2.2.2.2.2.2.2.2.2.2.2.2.1) (c.2.2.2.2.2.2.2.2.2.2.2.2.2.2.2.2.2.2.2.2.2.2.2.2.2.2.2.2.2.2.2.2.2.2.2.2.2.2.2.2.1) size (c.2.2.2.2.2.2.2.2.2.2.2.2.2.2.2.2.2.2.2.2.2.2.2.2.2.2.2.2.2.2.2.2.2.2.2.2.2.2.2.2.2.1) (c.2.2.2.2.2.2.2.2.2.2.2.2.2.2.2.2.2.2.2.2.2.2.2.2.2.2.2.2.2.2.2.2.2.2.2.2.2.2.2.2.2.2.1) (c.2.2.2.2.2.2.2.2.2.2.2.2.2.2.2.2.2.2.2.2.2.2.2.2.2.2.2.2.2.2.2.2.2.2.2.2.2.2.2.2.2.2.2)
noncomputable def fa : Addr := κ.1
noncomputable def cd : Value := κ.2.1
noncomputable def o0 : Obj := κ.2.2.1
noncomputable def g : Heap := κ.2.2.2.1
noncomputable def L : Nat := κ.2.2.2.2.1
noncomputable def m₁ : Str → Option Value := κ.2.2.2.2.2.1
noncomputable def dl : Addr := κ.2.2.2.2.2.2.1
noncomputable def dv : List Value := κ.2.2.2.2.2.2.2.1
noncomputable def nd : Nat := κ.2.2.2.2.2.2.2.2.1
noncomputable def drawn : List Int := κ.2.2.2.2.2.2.2.2.2.1
noncomputable def il : Addr := κ.2.2.2.2.2.2.2.2.2.2.1
noncomputable def iv : List Value := κ.2.2.2.2.2.2.2.2.2.2.2.1
noncomputable def nw : List (Addr × Obj) := κ.2.2.2.2.2.2.2.2.2.2.2.2.1
noncomputable def cl : Addr := κ.2.2.2.2.2.2.2.2.2.2.2.2.2.1
noncomputable def cv : List Value := κ.2.2.2.2.2.2.2.2.2.2.2.2.2.2.1
noncomputable def tk9 : Nat := κ.2.2.2.2.2.2.2.2.2.2.2.2.2.2.2.1
noncomputable def hz6 : Heap := κ.2.2.2.2.2.2.2.2.2.2.2.2.2.2.2.2.1
noncomputable def hz7 : Heap := κ.2.2.2.2.2.2.2.2.2.2.2.2.2.2.2.2.2.1
noncomputable def tp : Addr := κ.2.2.2.2.2.2.2.2.2.2.2.2.2.2.2.2.2.2.1
noncomputable def D : Addr := κ.2.2.2.2.2.2.2.2.2.2.2.2.2.2.2.2.2.2.2.1
noncomputable def T : Addr := κ.2.2.2.2.2.2.2.2.2.2.2.2.2.2.2.2.2.2.2.2.1
noncomputable def ta : Tok := κ.2.2.2.2.2.2.2.2.2.2.2.2.2.2.2.2.2.2.2.2.2.1
noncomputable def tb : Tok := κ.2.2.2.2.2.2.2.2.2.2.2.2.2.2.2.2.2.2.2.2.2.2.1
noncomputable def i : Nat := κ.2.2.2.2.2.2.2.2.2.2.2.2.2.2.2.2.2.2.2.2.2.2.2.1
noncomputable def m₂ : Str → Option Value := κ.2.2.2.2.2.2.2.2.2.2.2.2.2.2.2.2.2.2.2.2.2.2.2.2.1
noncomputable def h10 : Heap := κ.2.2.2.2.2.2.2.2.2.2.2.2.2.2.2.2.2.2.2.2.2.2.2.2.2.1
noncomputable def tk10 : Nat := κ.2.2.2.2.2.2.2.2.2.2.2.2.2.2.2.2.2.2.2.2.2.2.2.2.2.2.1
noncomputable def g10 : Array GenState := κ.2.2.2.2.2.2.2.2.2.2.2.2.2.2.2.2.2.2.2.2.2.2.2.2.2.2.2.1
noncomputable def I : Addr := κ.2.2.2.2.2.2.2.2.2.2.2.2.2.2.2.2.2.2.2.2.2.2.2.2.2.2.2.2.1
noncomputable def oI : Obj := κ.2.2.2.2.2.2.2.2.2.2.2.2.2.2.2.2.2.2.2.2.2.2.2.2.2.2.2.2.2.1
noncomputable def ps1 : Array Value := κ.2.2.2.2.2.2.2.2.2.2.2.2.2.2.2.2.2.2.2.2.2.2.2.2.2.2.2.2.2.2.1
noncomputable def ps2 : Array Value := κ.2.2.2.2.2.2.2.2.2.2.2.2.2.2.2.2.2.2.2.2.2.2.2.2.2.2.2.2.2.2.2.1
noncomputable def co : Obj := κ.2.2.2.2.2.2.2.2.2.2.2.2.2.2.2.2.2.2.2.2.2.2.2.2.2.2.2.2.2.2.2.2.1
noncomputable def bs : List Bool := κ.2.2.2.2.2.2.2.2.2.2.2.2.2.2.2.2.2.2.2.2.2.2.2.2.2.2.2.2.2.2.2.2.2.1
noncomputable def n1 : Nat := κ.2.2.2.2.2.2.2.2.2.2.2.2.2.2.2.2.2.2.2.2.2.2.2.2.2.2.2.2.2.2.2.2.2.2.1
noncomputable def n2 : Nat := κ.2.2.2.2.2.2.2.2.2.2.2.2.2.2.2.2.2.2.2.2.2.2.2.2.2.2.2.2.2.2.2.2.2.2.2.1
noncomputable def n3 : Nat := κ.2.2.2.2.2.2.2.2.2.2.2.2.2.2.2.2.2.2.2.2.2.2.2.2.2.2.2.2.2.2.2.2.2.2.2.2.1
noncomputable def n4 : Nat := κ.2.2.2.2.2.2.2.2.2.2.2.2.2.2.2.2.2.2.2.2.2.2.2.2.2.2.2.2.2.2.2.2.2.2.2.2.2.1
noncomputable def n5 : Nat := κ.2.2.2.2.2.2.2.2.2.2.2.2.2.2.2.2.2.2.2.2.2.2.2.2.2.2.2.2.2.2.2.2.2.2.2.2.2.2.1
noncomputable def X : List (Addr × Obj) := κ.2.2.2.2.2.2.2.2.2.2.2.2.2.2.2.2.2.2.2.2.2.2.2.2.2.2.2.2.2.2.2.2.2.2.2.2.2.2.2.1
noncomputable def vco : Option Value := κ.2.2.2.2.2.2.2.2.2.2.2.2.2.2.2.2.2.2.2.2.2.2.2.2.2.2.2.2.2.2.2.2.2.2.2.2.2.2.2.2.1
noncomputable def tz : Tok := κ.2.2.2.2.2.2.2.2.2.2.2.2.2.2.2.2.2.2.2.2.2.2.2.2.2.2.2.2.2.2.2.2.2.2.2.2.2.2.2.2.2.1
noncomputable def h11 : Heap := κ.2.2.2.2.2.2.2.2.2.2.2.2.2.2.2.2.2.2.2.2.2.2.2.2.2.2.2.2.2.2.2.2.2.2.2.2.2.2.2.2.2.2.1
noncomputable def co2 : Obj := κ.2.2.2.2.2.2.2.2.2.2.2.2.2.2.2.2.2.2.2.2.2.2.2.2.2.2.2.2.2.2.2.2.2.2.2.2.2.2.2.2.2.2.2
theorem turn : ∀ size, pre.1 fa cd o0 g L m₁ dl dv nd drawn il iv nw cl cv tk9 hz6 hz7 tp D T ta tb i m₂ h10 tk10 g10 I oI ps1 ps2 co bs n1 n2 n3 n4 n5 X vco size tz h11 co2 := by
  intro size
  w_top off
  refine fillG ?_
  k_fill
  intro _ _
  intro Xg Tg K' hLs hd0 cH115 codeHd hP113 hP57 hS' hdp hun md hID hdlen hrng offD hdvl ndD1 nd113 nd57 off8 offn hits hcok1 hcok2 hJ9 off9 zq1 zq2 oT oD otp n1' z0 z1 z2 z3 z4 z5 z6 z7 z8 z9 z10 n3' i1 i2 i3 c1 c2 c3 lT hoI ab10 hco tok1 tok2 hitX offX hbl mi mc mt md2 offI hsz hpos hi2 hI113 hI57 hIL hIT hID' hIil hIcl hItp hIX xoff F11 N11 hco2
  (try k_fold)
  refine exE5 (bridge (size := size) (drawn.map itOf) hsz (by rw [List.length_map]; lia)) ?_
  intro r0 rs toks run0 runs hbr
  have hparts := hbr.1
  have hgood := hbr.2.1
  have hsum := hbr.2.2.1
  have hflat := hbr.2.2.2.1
  have hwf := hbr.2.2.2.2.1
  have htk := hbr.2.2.2.2.2.1
  have hsplit := hbr.2.2.2.2.2.2.1
  have hrl := hbr.2.2.2.2.2.2.2.1
  have hrl2 := hbr.2.2.2.2.2.2.2.2
  clear hbr
  k_steps
  unfold Stop
  (with_reducible rename Fr _ _ _ _ => Fy)
  (with_reducible rename News _ _ _ _ => Ny)
  have k1 : Kp g _ := kp_of Fy
  have kl1 : Kp g (less _ [113]) := fun b x e => less_get (k1 b x e) (by simp; rintro rfl; rw [hP113] at e; cases e)
  have NN := Ny
  have at1 : ∀ p ∈ X, (less _ [113]).get? p.1 = some p.2 := fun p hp => less_get (Ny p (.tail _ (.tail _ (.tail _ (.tail _ (.tail _ (.tail _ (.tail _ (.tail _ (.tail _ (hp))))))))))).1 (by simp; exact (offX p hp).1)
  have il1 : (less _ [113]).IsList il iv.toArray := ⟨_, less_get (Ny (il, W.listOf (List.toArray iv) n3) (by repeat (first | exact List.Mem.head _ | refine List.Mem.tail _ ?_))).1 (by simp; exact Ne.symm i1), rfl, _, rfl⟩
  refine use_specG (P := 113) (rest := ((57, tabObj ps2) :: (L + 1, co2) :: (I, oI) :: (T, W.listOf (List.toArray (bs.map Value.bool)) n1) :: (D, W.listOf (List.toArray (bs.map Value.bool)) n2) :: (il, W.listOf (List.toArray iv) n3) :: (cl, W.listOf (List.toArray cv) n4) :: (tp, tupObj (List.toArray [.int 32 ta, .int 128 tb]) n5) :: X)) (SpecT.toG (S_pattern w _ (drawn.map itOf) size il tz (hS'.keeps kl1) iv il1 (hitX.mono fun _ _ q => q.atH at1) (fun it hit => by
    obtain ⟨x, _, rfl⟩ := List.mem_map.mp hit
    exact itOf_ok x) (by have := hitX.1; rw [List.length_map] at this; lia) hsz)) rfl (by dsimp only [AA]; lia) (by dsimp only [AA]; lia) Fy (fun q hq => Ny q (sub_cons (by repeat (first | exact List.Mem.head _ | refine List.Mem.tail _ ?_)) (sub_cons (by repeat (first | exact List.Mem.head _ | refine List.Mem.tail _ ?_)) (sub_cons (by repeat (first | exact List.Mem.head _ | refine List.Mem.tail _ ?_)) (sub_cons (by repeat (first | exact List.Mem.head _ | refine List.Mem.tail _ ?_)) (sub_cons (by repeat (first | exact List.Mem.head _ | refine List.Mem.tail _ ?_)) (sub_cons (by repeat (first | exact List.Mem.head _ | refine List.Mem.tail _ ?_)) (sub_cons (by repeat (first | exact List.Mem.head _ | refine List.Mem.tail _ ?_)) (sub_cons (by repeat (first | exact List.Mem.head _ | refine List.Mem.tail _ ?_)) (sub_cons (by repeat (first | exact List.Mem.head _ | refine List.Mem.tail _ ?_)) ((fun p hp => by repeat (first | exact hp | refine List.Mem.tail _ ?_))))))))))) q hq)) (off_cons (by first | assumption | exact Ne.symm (by assumption) | lia) (off_cons (by first | assumption | exact Ne.symm (by assumption) | lia) (off_cons (by first | assumption | exact Ne.symm (by assumption) | lia) (off_cons (by first | assumption | exact Ne.symm (by assumption) | lia) (off_cons (by first | assumption | exact Ne.symm (by assumption) | lia) (off_cons (by first | assumption | exact Ne.symm (by assumption) | lia) (off_cons (by first | assumption | exact Ne.symm (by assumption) | lia) (off_cons (by first | assumption | exact Ne.symm (by assumption) | lia) (fun p hp => (offX p hp).1))))))))) (tok1.v (P := 113) Fy (fun q hq => Ny q (sub_cons (by repeat (first | exact List.Mem.head _ | refine List.Mem.tail _ ?_)) (fun p hp => by repeat (first | exact hp | refine List.Mem.tail _ ?_)) q hq))) ?_
  intro v12 tl12 h12 tk12 g12 o12 F12 N12 d12 t12 V12 ab12 hq8
  (try k_fold)
  obtain ⟨tp12, rfl⟩ := hq8
  obtain ⟨ps1', xs1, rfl, tokA, NA, offA, codA⟩ := V12.ledger F12
  clear Fy Ny NN k1 kl1 at1 il1
  have NN : News g L h12 ((113, tabObj ps1') :: (57, tabObj ps2) :: (L + 1, co2) :: (I, oI) :: (T, W.listOf (List.toArray (bs.map Value.bool)) n1) :: (D, W.listOf (List.toArray (bs.map Value.bool)) n2) :: (il, W.listOf (List.toArray iv) n3) :: (cl, W.listOf (List.toArray cv) n4) :: (tp, tupObj (List.toArray [.int 32 ta, .int 128 tb]) n5) :: X) := fun q hq => N12 q (sub_cons (by repeat (first | exact List.Mem.head _ | refine List.Mem.tail _ ?_)) (fun p hp => .tail _ (List.mem_append_left _ hp)) q hq)
  obtain ⟨X1, hX1⟩ : ∃ X1, X1 = X ++ xs1 := ⟨_, rfl⟩
  have sX : ∀ p ∈ X, p ∈ X1 := fun p hp => hX1 ▸ List.mem_append_left _ hp
  have sA : ∀ p ∈ xs1, p ∈ X1 := fun p hp => hX1 ▸ List.mem_append_right _ hp
  have offX1 : ∀ p ∈ X1, p.1 ≠ 113 ∧ p.1 ≠ 57 ∧ p.1 ≠ L + 1 ∧ p.1 ≠ T ∧ p.1 ≠ D ∧ p.1 ≠ il ∧ p.1 ≠ cl ∧ p.1 ≠ tp ∧ p.1 ≠ I := fun p hp => by
    rw [hX1] at hp
    rcases List.mem_append.mp hp with hp | hp
    · have z := offX p hp
      exact ⟨z.1, z.2.1, z.2.2.1, z.2.2.2.1, z.2.2.2.2.1, z.2.2.2.2.2.1, z.2.2.2.2.2.2.1, z.2.2.2.2.2.2.2, hIX p hp⟩
    · exact ⟨offA p hp, xs_off NA NN codA (a := 57) (by repeat (first | exact List.Mem.head _ | refine List.Mem.tail _ ?_)) (NotCode.tab tok2.1) p hp, xs_off NA NN codA (a := L + 1) (by repeat (first | exact List.Mem.head _ | refine List.Mem.tail _ ?_)) (NotCode.cell hco2) p hp, xs_off NA NN codA (a := T) (by repeat (first | exact List.Mem.head _ | refine List.Mem.tail _ ?_)) NotCode.list p hp, xs_off NA NN codA (a := D) (by repeat (first | exact List.Mem.head _ | refine List.Mem.tail _ ?_)) NotCode.list p hp, xs_off NA NN codA (a := il) (by repeat (first | exact List.Mem.head _ | refine List.Mem.tail _ ?_)) NotCode.list p hp, xs_off NA NN codA (a := cl) (by repeat (first | exact List.Mem.head _ | refine List.Mem.tail _ ?_)) NotCode.list p hp, xs_off NA NN codA (a := tp) (by repeat (first | exact List.Mem.head _ | refine List.Mem.tail _ ?_)) NotCode.tup p hp, xs_off NA NN codA (a := I) (by repeat (first | exact List.Mem.head _ | refine List.Mem.tail _ ?_)) (NotCode.iter hoI) p hp⟩
  have NX1 : News g L h12 ((113, tabObj ps1') :: (57, tabObj ps2) :: (L + 1, co2) :: (I, oI) :: (T, W.listOf (List.toArray (bs.map Value.bool)) n1) :: (D, W.listOf (List.toArray (bs.map Value.bool)) n2) :: (il, W.listOf (List.toArray iv) n3) :: (cl, W.listOf (List.toArray cv) n4) :: (tp, tupObj (List.toArray [.int 32 ta, .int 128 tb]) n5) :: X1) := fun q hq => by
    rw [hX1] at hq
    exact (fun q hq => (List.mem_append.mp hq).elim (fun h => NN q h) fun h => NA q h : News g L h12 (((113, tabObj ps1') :: (57, tabObj ps2) :: (L + 1, co2) :: (I, oI) :: (T, W.listOf (List.toArray (bs.map Value.bool)) n1) :: (D, W.listOf (List.toArray (bs.map Value.bool)) n2) :: (il, W.listOf (List.toArray iv) n3) :: (cl, W.listOf (List.toArray cv) n4) :: (tp, tupObj (List.toArray [.int 32 ta, .int 128 tb]) n5) :: X) ++ xs1)) q hq
  replace tokA := tokA.mono sA
  replace tok2 := tok2.mono sX
  replace hitX : All2 (ItIn X1) iv (drawn.map itOf) := hitX.mono fun _ _ q => q.mono sX
  clear NN NA N12 offX hIX offA codA tok1 V12 d12 t12 hX1 sX sA
  k_steps
  unfold Stop
  (with_reducible rename Fr _ _ _ _ => Fy)
  (with_reducible rename News _ _ _ _ => Ny)
  have k1 : Kp g _ := kp_of Fy
  have kl1 : Kp g (less _ [57]) := fun b x e => less_get (k1 b x e) (by simp; rintro rfl; rw [hP57] at e; cases e)
  refine use_specG (P := 57) (rest := ((113, tabObj ps1') :: (L + 1, co2) :: (I, oI) :: (T, W.listOf (List.toArray (bs.map Value.bool)) n1) :: (D, W.listOf (List.toArray (bs.map Value.bool)) n2) :: (il, W.listOf (List.toArray iv) n3) :: (cl, W.listOf (List.toArray cv) n4) :: (tp, tupObj (List.toArray [.int 32 ta, .int 128 tb]) n5) :: X1)) (S_translate w _ (drawn.map itOf) size _ tp12 (hS'.keeps kl1) rfl (by rw [List.length_map]; lia) hsz r0 rs hparts hgood hsum) rfl (by dsimp only [AA]; lia) (by dsimp only [AA]; lia) Fy (fun q hq => Ny q (sub_cons (by repeat (first | exact List.Mem.head _ | refine List.Mem.tail _ ?_)) (sub_cons (by repeat (first | exact List.Mem.head _ | refine List.Mem.tail _ ?_)) (sub_cons (by repeat (first | exact List.Mem.head _ | refine List.Mem.tail _ ?_)) (sub_cons (by repeat (first | exact List.Mem.head _ | refine List.Mem.tail _ ?_)) (sub_cons (by repeat (first | exact List.Mem.head _ | refine List.Mem.tail _ ?_)) (sub_cons (by repeat (first | exact List.Mem.head _ | refine List.Mem.tail _ ?_)) (sub_cons (by repeat (first | exact List.Mem.head _ | refine List.Mem.tail _ ?_)) (sub_cons (by repeat (first | exact List.Mem.head _ | refine List.Mem.tail _ ?_)) (sub_cons (by repeat (first | exact List.Mem.head _ | refine List.Mem.tail _ ?_)) ((fun p hp => by repeat (first | exact hp | refine List.Mem.tail _ ?_))))))))))) q hq)) (off_cons (by first | assumption | exact Ne.symm (by assumption) | lia) (off_cons (by first | assumption | exact Ne.symm (by assumption) | lia) (off_cons (by first | assumption | exact Ne.symm (by assumption) | lia) (off_cons (by first | assumption | exact Ne.symm (by assumption) | lia) (off_cons (by first | assumption | exact Ne.symm (by assumption) | lia) (off_cons (by first | assumption | exact Ne.symm (by assumption) | lia) (off_cons (by first | assumption | exact Ne.symm (by assumption) | lia) (off_cons (by first | assumption | exact Ne.symm (by assumption) | lia) (fun p hp => (offX1 p hp).2.1))))))))) (tok2.v (P := 57) Fy (fun q hq => Ny q (sub_cons (by repeat (first | exact List.Mem.head _ | refine List.Mem.tail _ ?_)) (fun p hp => by repeat (first | exact hp | refine List.Mem.tail _ ?_)) q hq))) ?_
  intro v13 tl13 h13 tk13 g13 o13 F13 N13 d13 t13 V13 ab13 hq9
  (try k_fold)
  obtain ⟨tp13, rfl⟩ := hq9
  obtain ⟨ps2', xs2, rfl, tokB, NB', offB, codB⟩ := V13.ledger F13
  clear Fy Ny k1 kl1
  have NN : News g L h13 ((57, tabObj ps2') :: (113, tabObj ps1') :: (L + 1, co2) :: (I, oI) :: (T, W.listOf (List.toArray (bs.map Value.bool)) n1) :: (D, W.listOf (List.toArray (bs.map Value.bool)) n2) :: (il, W.listOf (List.toArray iv) n3) :: (cl, W.listOf (List.toArray cv) n4) :: (tp, tupObj (List.toArray [.int 32 ta, .int 128 tb]) n5) :: X1) := fun q hq => N13 q (sub_cons (by repeat (first | exact List.Mem.head _ | refine List.Mem.tail _ ?_)) (fun p hp => .tail _ (List.mem_append_left _ hp)) q hq)
  obtain ⟨X2, hX2⟩ : ∃ X2, X2 = X1 ++ xs2 := ⟨_, rfl⟩
  have sX : ∀ p ∈ X1, p ∈ X2 := fun p hp => hX2 ▸ List.mem_append_left _ hp
  have sB : ∀ p ∈ xs2, p ∈ X2 := fun p hp => hX2 ▸ List.mem_append_right _ hp
  have offX2 : ∀ p ∈ X2, p.1 ≠ 113 ∧ p.1 ≠ 57 ∧ p.1 ≠ L + 1 ∧ p.1 ≠ T ∧ p.1 ≠ D ∧ p.1 ≠ il ∧ p.1 ≠ cl ∧ p.1 ≠ tp ∧ p.1 ≠ I := fun p hp => by
    rw [hX2] at hp
    rcases List.mem_append.mp hp with hp | hp
    · exact offX1 p hp
    · exact ⟨xs_off NB' NN codB (a := 113) (by repeat (first | exact List.Mem.head _ | refine List.Mem.tail _ ?_)) tokA.triples p hp, offB p hp, xs_off NB' NN codB (a := L + 1) (by repeat (first | exact List.Mem.head _ | refine List.Mem.tail _ ?_)) (NotCode.cell hco2) p hp, xs_off NB' NN codB (a := T) (by repeat (first | exact List.Mem.head _ | refine List.Mem.tail _ ?_)) NotCode.list p hp, xs_off NB' NN codB (a := D) (by repeat (first | exact List.Mem.head _ | refine List.Mem.tail _ ?_)) NotCode.list p hp, xs_off NB' NN codB (a := il) (by repeat (first | exact List.Mem.head _ | refine List.Mem.tail _ ?_)) NotCode.list p hp, xs_off NB' NN codB (a := cl) (by repeat (first | exact List.Mem.head _ | refine List.Mem.tail _ ?_)) NotCode.list p hp, xs_off NB' NN codB (a := tp) (by repeat (first | exact List.Mem.head _ | refine List.Mem.tail _ ?_)) NotCode.tup p hp, xs_off NB' NN codB (a := I) (by repeat (first | exact List.Mem.head _ | refine List.Mem.tail _ ?_)) (NotCode.iter hoI) p hp⟩
  have NX2 : News g L h13 ((57, tabObj ps2') :: (113, tabObj ps1') :: (L + 1, co2) :: (I, oI) :: (T, W.listOf (List.toArray (bs.map Value.bool)) n1) :: (D, W.listOf (List.toArray (bs.map Value.bool)) n2) :: (il, W.listOf (List.toArray iv) n3) :: (cl, W.listOf (List.toArray cv) n4) :: (tp, tupObj (List.toArray [.int 32 ta, .int 128 tb]) n5) :: X2) := fun q hq => by
    rw [hX2] at hq
    exact (fun q hq => (List.mem_append.mp hq).elim (fun h => NN q h) fun h => NB' q h : News g L h13 (((57, tabObj ps2') :: (113, tabObj ps1') :: (L + 1, co2) :: (I, oI) :: (T, W.listOf (List.toArray (bs.map Value.bool)) n1) :: (D, W.listOf (List.toArray (bs.map Value.bool)) n2) :: (il, W.listOf (List.toArray iv) n3) :: (cl, W.listOf (List.toArray cv) n4) :: (tp, tupObj (List.toArray [.int 32 ta, .int 128 tb]) n5) :: X1) ++ xs2)) q hq
  replace tokA := tokA.mono sX
  replace tokB := tokB.mono sB
  replace hitX : All2 (ItIn X2) iv (drawn.map itOf) := hitX.mono fun _ _ q => q.mono sX
  clear NN NB' N13 offX1 offB codB tok2 V13 d13 t13 hX2 sX sB
  k_steps
  unfold Stop
  (with_reducible rename Fr _ _ _ _ => Fy)
  (with_reducible rename News _ _ _ _ => Ny)
  refine use_spec (S_runs w _ _ tp13 (hS'.keeps (kp_of Fy)) (by simp only [List.length_append, List.length_cons, List.length_nil] at hsum ⊢; lia) toks (by rw [hflat]; rfl) hwf) rfl (by dsimp only [AA]; lia) (by dsimp only [AA]; lia) Fy Ny ?_
  intro v14 tl14 h14 tk14 F14 N14 O14 hq10
  (try k_fold)
  obtain ⟨lr, rv, nr, rfl, hmr, hallr⟩ := hq10
  rw [htk] at hallr
  have N14' : News g L h14 ((57, tabObj ps2') :: (113, tabObj ps1') :: (L + 1, co2) :: (I, oI) :: (T, W.listOf (List.toArray (bs.map Value.bool)) n1) :: (D, W.listOf (List.toArray (bs.map Value.bool)) n2) :: (il, W.listOf (List.toArray iv) n3) :: (cl, W.listOf (List.toArray cv) n4) :: (tp, tupObj (List.toArray [.int 32 ta, .int 128 tb]) n5) :: (X2 ++ tl14)) := N14
  clear Fy Ny N14 O14
  k_steps
  unfold Stop
  (with_reducible rename Fr _ _ _ _ => Fb)
  (with_reducible rename News _ _ _ _ => Nb)
  have hcvl : cv.length = (drawn.flatMap codesOf).length := by rw [hJ9.length, List.length_map]
  refine my_comp_list0 Fb (by rfl) (by with_unfolding_all rfl) (by decide) (by rfl) (by decide) (by intro _; rfl) (by intro _ _; rfl) ?_
  walk1
  refine ex4 cl cv _ (fun j ys news => news = _ ∧ ys.length ≤ j ∧ StrsAre ys (((drawn.flatMap codesOf).take j).map fun c => [sent size c])) ⟨rfl, ⟨by assumption, by assumption, len_le rfl (by lia), ⟨rfl, Nat.le_refl _, All2.nil⟩, ?_, ?_⟩, ?_⟩
  · intro j ys news hq11
    (try k_fold)
    obtain ⟨rfl, hy, _⟩ := hq11
    exact ⟨hy, .inr ⟨_, (by repeat (first | exact List.Mem.head _ | refine List.Mem.tail _ ?_)), rfl, _, rfl⟩⟩
  · intro j v ys news C oC D' I' oI' h15 tk15 hv15 hq12 cs hoff
    (try k_fold)
    obtain ⟨rfl, hy15, hs15⟩ := hq12
    obtain ⟨c, tc, rfl, hc⟩ := ints_at hJ9 hv15
    refine comp_name rfl rfl cs ?_
    intro h16 tk16 oC16 mC16 cs16 ho16 hm16
    obtain ⟨F16, N16, off16, cd16, _⟩ := cs16
    clear cs Fb Nb
    have hc256 : c < 256 := hcok2 c (List.mem_of_getElem? hc)
    k_steps
    unfold Stop
    (with_reducible rename Fr _ _ _ _ => Fy)
    (with_reducible rename News _ _ _ _ => Ny)
    refine use_spec (S_sent w _ c size tc tz (hS'.keeps (kp_of Fy)) hc256) rfl (by dsimp only [AA]; lia) (by dsimp only [AA]; lia) Fy Ny ?_
    clear Fy Ny
    intro v17 tl17 h17 tk17 F17 N17 O17 hq13
    (try k_fold)
    obtain ⟨rfl, t17, rfl⟩ := hq13
    k_steps
    refine CEndI.grow F17 N17 O17 off16 cd16 ho16 hoff ⟨by rw [List.append_nil], by rw [List.length_append]; exact Nat.succ_le_succ hy15, ?_⟩
    rw [take_snoc hc, List.map_append]
    exact StrsAre.snoc hs15
  intro D3 ys3 news h15 tk15 hq14 F15 N15 off15
  (try k_fold)
  obtain ⟨rfl, hy15, hs15⟩ := hq14
  rw [hcvl, List.take_length] at hs15
  clear Fb Nb
  k_steps
  unfold Stop
  refine join_call (sp := []) (News.isList (by assumption) (List.Mem.head _)) hs15 (by rw [sum_one]; lia) ?_
  intro tk18 t18
  rw [joinL_one]
  k_steps
  unfold Stop
  (with_reducible rename Fr _ _ _ _ => Fy)
  (with_reducible rename News _ _ _ _ => Ny)
  have Ntl : News g L _ tl14 := fun q hq => Ny q (by repeat (first | exact List.mem_append_right _ hq | refine List.Mem.tail _ ?_))
  refine use_spec (S_takes w _ lr rv _ _ _ t18 (hS'.keeps (kp_of Fy)) (News.isList Ntl hmr) (runs_conv Ntl hrl hallr) (by rw [List.length_map]; lia) (by rw [List.length_map]; lia)) rfl (by dsimp only [AA]; lia) (by dsimp only [AA]; lia) Fy Ny ?_
  rintro v19 tl19 h19 tk19 F19 N19 O19 rfl
  clear Fy Ny Ntl
  have NN : News g L h19 ((T, W.listOf (List.toArray (bs.map Value.bool)) n1) :: (57, tabObj ps2') :: (113, tabObj ps1') :: (L + 1, co2) :: (I, oI) :: (D, W.listOf (List.toArray (bs.map Value.bool)) n2) :: (il, W.listOf (List.toArray iv) n3) :: (cl, W.listOf (List.toArray cv) n4) :: (tp, tupObj (List.toArray [.int 32 ta, .int 128 tb]) n5) :: X2) := fun q hq => N19 q (List.mem_append_left _ (.tail _ (sub_cons (by repeat (first | exact List.Mem.head _ | refine List.Mem.tail _ ?_)) (sub_cons (by repeat (first | exact List.Mem.head _ | refine List.Mem.tail _ ?_)) (sub_cons (by repeat (first | exact List.Mem.head _ | refine List.Mem.tail _ ?_)) (sub_cons (by repeat (first | exact List.Mem.head _ | refine List.Mem.tail _ ?_)) (sub_cons (by repeat (first | exact List.Mem.head _ | refine List.Mem.tail _ ?_)) (sub_cons (by repeat (first | exact List.Mem.head _ | refine List.Mem.tail _ ?_)) (sub_cons (by repeat (first | exact List.Mem.head _ | refine List.Mem.tail _ ?_)) (sub_cons (by repeat (first | exact List.Mem.head _ | refine List.Mem.tail _ ?_)) (sub_cons (by repeat (first | exact List.Mem.head _ | refine List.Mem.tail _ ?_)) ((fun p hp => (by repeat (first | exact List.mem_append_left _ hp | refine List.Mem.tail _ ?_)))))))))))) q hq)))
  clear N19 O19
  k_steps
  unfold Stop
  (with_reducible rename Fr _ _ _ _ => Fa)
  (with_reducible rename News _ _ _ _ => Na)
  refine append_own Fa Na (off_cons (by first | assumption | exact Ne.symm (by assumption) | lia) (off_cons (by first | assumption | exact Ne.symm (by assumption) | lia) (off_cons (by first | assumption | exact Ne.symm (by assumption) | lia) (off_cons (by first | assumption | exact Ne.symm (by assumption) | lia) (off_cons (by first | assumption | exact Ne.symm (by assumption) | lia) (off_cons (by first | assumption | exact Ne.symm (by assumption) | lia) (off_cons (by first | assumption | exact Ne.symm (by assumption) | lia) (off_cons (by first | assumption | exact Ne.symm (by assumption) | lia) (fun p hp => (offX2 p hp).2.2.2.1))))))))) (by rw [List.length_map]; lia) ?_
  clear Fa Na
  intro h20 F20 N20
  k_steps
  unfold Stop
  (with_reducible rename Fr _ _ _ _ => Fb)
  (with_reducible rename News _ _ _ _ => Nb)
  refine my_comp_list0 Fb (by rfl) (by with_unfolding_all rfl) (by decide) (by rfl) (by decide) (by intro _; rfl) (by intro _ _; rfl) ?_
  walk1
  refine ex4 cl cv _ (fun j ys news => news = _ ∧ ys.length ≤ j ∧ IntsAre ys ((((drawn.flatMap codesOf).take j).map (· % size)).map fun c : Nat => (c : Int))) ⟨rfl, ⟨by assumption, by assumption, len_le rfl (by lia), ⟨rfl, Nat.le_refl _, .nil⟩, ?_, ?_⟩, ?_⟩
  · intro j ys news hq15
    (try k_fold)
    obtain ⟨rfl, hy, _⟩ := hq15
    exact ⟨hy, .inr ⟨_, (by repeat (first | exact List.Mem.head _ | refine List.Mem.tail _ ?_)), rfl, _, rfl⟩⟩
  · intro j v ys news C oC D' I' oI' h21 tk21 hv21 hq16 cs hoff
    (try k_fold)
    obtain ⟨rfl, hy21, hs21⟩ := hq16
    obtain ⟨c, tc, rfl, hc⟩ := ints_at hJ9 hv21
    refine comp_name rfl rfl cs ?_
    intro h22 tk22 oC22 mC22 cs22 ho22 hm22
    obtain ⟨F22, N22, off22, cd22, _⟩ := cs22
    clear cs Fb Nb
    k_steps
    refine CEndI.mk (by assumption) (by assumption) off22 cd22 ho22 hoff ⟨rfl, by rw [List.length_append]; exact Nat.succ_le_succ hy21, ?_⟩
    rw [take_snoc hc, List.map_append, natmod]
    exact ints_snoc hs21
  intro D4 ys4 news h21 tk21 hq17 F21 N21 off21
  (try k_fold)
  obtain ⟨rfl, hy21, hs21⟩ := hq17
  rw [hcvl, List.take_length] at hs21
  clear Fb Nb
  k_steps
  unfold Stop
  (with_reducible rename Fr _ _ _ _ => Fy)
  (with_reducible rename News _ _ _ _ => Ny)
  have at2 : ∀ p ∈ X2, _ := fun p hp => (Ny p (by repeat (first | exact hp | refine List.Mem.tail _ ?_))).1
  refine use_spec (S_due w _ il D4 (drawn.map itOf) size _ ys4 ((drawn.flatMap codesOf).map (· % size)) (hS'.keeps (kp_of Fy)) ⟨iv, News.isList Ny (by repeat (first | exact List.Mem.head _ | refine List.Mem.tail _ ?_)), hitX.mono fun _ _ q => q.atH at2⟩ (News.isList Ny (.head _)) hs21 (by rw [List.length_map]; lia) (by rw [List.length_map]; lia) hsz) rfl (by dsimp only [AA]; lia) (by dsimp only [AA]; lia) Fy Ny ?_
  intro v23 tl23 h23 tk23 F23 N23 O23 hq18
  (try k_fold)
  obtain ⟨bd, rfl, hbd⟩ := hq18
  clear Fy Ny at2
  have NN2 : News g L h23 ((D, W.listOf (List.toArray (bs.map Value.bool)) n2) :: (57, tabObj ps2') :: (113, tabObj ps1') :: (L + 1, co2) :: (I, oI) :: (T, W.listOf (List.toArray (bs.map Value.bool ++ [Value.bool (takesB ((run0 :: runs).map fun r => r.map (pieceOf size)) ((drawn.flatMap codesOf).map (sent size)))])) (n1 + 1)) :: (il, W.listOf (List.toArray iv) n3) :: (cl, W.listOf (List.toArray cv) n4) :: (tp, tupObj (List.toArray [.int 32 ta, .int 128 tb]) n5) :: X2) := fun q hq => N23 q (List.mem_append_left _ (.tail _ (sub_cons (by repeat (first | exact List.Mem.head _ | refine List.Mem.tail _ ?_)) (sub_cons (by repeat (first | exact List.Mem.head _ | refine List.Mem.tail _ ?_)) (sub_cons (by repeat (first | exact List.Mem.head _ | refine List.Mem.tail _ ?_)) (sub_cons (by repeat (first | exact List.Mem.head _ | refine List.Mem.tail _ ?_)) (sub_cons (by repeat (first | exact List.Mem.head _ | refine List.Mem.tail _ ?_)) (sub_cons (by repeat (first | exact List.Mem.head _ | refine List.Mem.tail _ ?_)) (sub_cons (by repeat (first | exact List.Mem.head _ | refine List.Mem.tail _ ?_)) (sub_cons (by repeat (first | exact List.Mem.head _ | refine List.Mem.tail _ ?_)) (sub_cons (by repeat (first | exact List.Mem.head _ | refine List.Mem.tail _ ?_)) ((fun p hp => by repeat (first | exact hp | refine List.Mem.tail _ ?_))))))))))) q hq)))
  have hsame := law_same (drawn.map itOf) (drawn.flatMap codesOf) hsz hsplit hbd
  clear N23 O23
  k_steps
  unfold Stop
  (with_reducible rename Fr _ _ _ _ => Fa)
  (with_reducible rename News _ _ _ _ => Na)
  refine append_own Fa Na (off_cons (by first | assumption | exact Ne.symm (by assumption) | lia) (off_cons (by first | assumption | exact Ne.symm (by assumption) | lia) (off_cons (by first | assumption | exact Ne.symm (by assumption) | lia) (off_cons (by first | assumption | exact Ne.symm (by assumption) | lia) (off_cons (by first | assumption | exact Ne.symm (by assumption) | lia) (off_cons (by first | assumption | exact Ne.symm (by assumption) | lia) (off_cons (by first | assumption | exact Ne.symm (by assumption) | lia) (off_cons (by first | assumption | exact Ne.symm (by assumption) | lia) (fun p hp => (offX2 p hp).2.2.2.2.1))))))))) (by rw [List.length_map]; lia) ?_
  clear Fa Na
  intro h24 F24 N24
  k_steps
  have e24 : bs.map Value.bool ++ [Value.bool bd] = (bs ++ [bd]).map Value.bool := by rw [List.map_append]; rfl
  rw [hsame, e24] at N24
  exact TPost.mk (news' := ((113, tabObj ps1') :: (57, tabObj ps2') :: (L + 1, co2) :: (T, W.listOf (List.toArray ((bs ++ [bd]).map Value.bool)) (n1 + 1)) :: (D, W.listOf (List.toArray ((bs ++ [bd]).map Value.bool)) (n2 + 1)) :: (il, W.listOf (List.toArray iv) n3) :: (cl, W.listOf (List.toArray cv) n4) :: (tp, tupObj (List.toArray [.int 32 ta, .int 128 tb]) n5) :: X2)) (fun z => ab13 (ab12 (ab10 z))) F24 N24 (by repeat (first | exact List.Mem.head _ | refine List.Mem.tail _ ?_)) (sub_cons (by repeat (first | exact List.Mem.head _ | refine List.Mem.tail _ ?_)) (sub_cons (by repeat (first | exact List.Mem.head _ | refine List.Mem.tail _ ?_)) (sub_cons (by repeat (first | exact List.Mem.head _ | refine List.Mem.tail _ ?_)) (sub_cons (by repeat (first | exact List.Mem.head _ | refine List.Mem.tail _ ?_)) (sub_cons (by repeat (first | exact List.Mem.head _ | refine List.Mem.tail _ ?_)) (sub_cons (by repeat (first | exact List.Mem.head _ | refine List.Mem.tail _ ?_)) (sub_cons (by repeat (first | exact List.Mem.head _ | refine List.Mem.tail _ ?_)) (sub_cons (by repeat (first | exact List.Mem.head _ | refine List.Mem.tail _ ?_)) ((fun p hp => by repeat (first | exact hp | refine List.Mem.tail _ ?_))))))))))) (off_cons (by first | assumption | exact Ne.symm (by assumption) | lia) (off_cons (by first | assumption | exact Ne.symm (by assumption) | lia) (off_cons (by first | assumption | exact Ne.symm (by assumption) | lia) (off_cons (by first | assumption | exact Ne.symm (by assumption) | lia) (off_cons (by first | assumption | exact Ne.symm (by assumption) | lia) (off_cons (by first | assumption | exact Ne.symm (by assumption) | lia) (off_cons (by first | assumption | exact Ne.symm (by assumption) | lia) (off_cons (by first | assumption | exact Ne.symm (by assumption) | lia) (fun p hp => (offX2 p hp).2.2.2.2.2.2.2.2))))))))) ⟨ps1', ps2', co2, bs ++ [bd], _, _, _, _, _, X2, _, ⟨(by repeat (first | with_reducible assumption | with_reducible exact if_pos rfl | refine (if_neg (by decide)).trans ?_ | rfl)), (by repeat (first | with_reducible assumption | with_reducible exact if_pos rfl | refine (if_neg (by decide)).trans ?_ | rfl)), (by repeat (first | with_reducible assumption | with_reducible exact if_pos rfl | refine (if_neg (by decide)).trans ?_ | rfl)), (by repeat (first | with_reducible assumption | with_reducible exact if_pos rfl | refine (if_neg (by decide)).trans ?_ | rfl))⟩, rfl, hco2, tokA, tokB, hitX, fun p hp => ⟨(offX2 p hp).1, (offX2 p hp).2.1, (offX2 p hp).2.2.1, (offX2 p hp).2.2.2.1, (offX2 p hp).2.2.2.2.1, (offX2 p hp).2.2.2.2.2.1, (offX2 p hp).2.2.2.2.2.2.1, (offX2 p hp).2.2.2.2.2.2.2.1⟩, by rw [List.length_append]; exact congrArg (· + 1) hbl⟩
end T1
theorem core : P w s₀ s₁ mg mb := pre.2 fun fa cd o0 g L m₁ dl dv nd drawn il iv nw cl cv tk9 hz6 hz7 tp D T ta tb i m₂ h10 tk10 g10 I oI ps1 ps2 co bs n1 n2 n3 n4 n5 X vco size tz h11 co2 => pickAll T1.ne (P := fun c => ∀ size, pre.1 (c.1) (c.2.1) (c.2.2.1) (c.2.2.2.1) (c.2.2.2.2.1) (c.2.2.2.2.2.1) (c.2.2.2.2.2.2.1) (c.2.2.2.2.2.2.2.1) (c.2.2.2.2.2.2.2.2.1) (c.2.2.2.2.2.2.2.2.2.1) (c.2.2.2.2.2.2.2.2.2.2.1) (c.2.2.2.2.2.2.2.2.2.2.2.1) (c.2.2.2.2.2.2.2.2.2.2.2.2.1) (c.2.2.2.2.2.2.2.2.2.2.2.2.2.1) (c.2.2.2.2.2.2.2.2.2.2.2.2.2.2.1) (c.2.2.2.2.2.2.2.2.2.2.2.2.2.2.2.1) (c.2.2.2.2.2.2.2.2.2.2.2.2.2.2.2.2.1) (c.2.2.2.2.2.2.2.2.2.2.2.2.2.2.2.2.2.1) (c.2.2.2.2.2.2.2.2.2.2.2.2.2.2.2.2.2.2.1) (c.2.2.2.2.2.2.2.2.2.2.2.2.2.2.2.2.2.2.2.1) (c.2.2.2.2.2.2.2.2.2.2.2.2.2.2.2.2.2.2.2.2.1) (c.2.2.2.2.2.2.2.2.2.2.2.2.2.2.2.2.2.2.2.2.2.1) (c.2.2.2.2.2.2.2.2.2.2.2.2.2.2.2.2.2.2.2.2.2.2.1) (c.2.2.2.2.2.2.2.2.2.2.2.2.2.2.2.2.2.2.2.2.2.2.2.1) (c.2.2.2.2.2.2.2.2.2.2.2.2.2.2.2.2.2.2.2.2.2.2.2.2.1) (c.2.2.2.2.2.2.2.2.2.2.2.2.2.2.2.2.2.2.2.2.2.2.2.2.2.1) (c.2.2.2.2.2.2.2.2.2.2.2.2.2.2.2.2.2.2.2.2.2.2.2.2.2.2.1) (c.2.2.2.2.2.2.2.2.2.2.2.2.2.2.2.2.2.2.2.2.2.2.2.2.2.2.2.1) (c.2.2.2.2.2.2.2.2.2.2.2.2.2.2.2.2.2.2.2.2.2.2.2.2.2.2.2.2.1) (c.2.2.2.2.2.2.2.2.2.2.2.2.2.2.2.2.2.2.2.2.2.2.2.2.2.2.2.2.2.1) (c.2.2.2.2.2.2.2.2.2.2.2.2.2.2.2.2.2.2.2.2.2.2.2.2.2.2.2.2.2.2.1) (c.2.2.2.2.2.2.2.2.2.2.2.2.2.2.2.2.2.2.2.2.2.2.2.2.2.2.2.2.2.2.2.1) (c.2.2.2.2.2.2.2.2.2.2.2.2.2.2.2.2.2.2.2.2.2.2.2.2.2.2.2.2.2.2.2.2.1) (c.2.2.2.2.2.2.2.2.2.2.2.2.2.2.2.2.2.2.2.2.2.2.2.2.2.2.2.2.2.2.2.2.2.1) (c.2.2.2.2.2.2.2.2.2.2.2.2.2.2.2.2.2.2.2.2.2.2.2.2.2.2.2.2.2.2.2.2.2.2.1) (c.2.2.2.2.2.2.2.2.2.2.2.2.2.2.2.2.2.2.2.2.2.2.2.2.2.2.2.2.2.2.2.2.2.2.2.1) (c.2.2.2.2.2.2.2.2.2.2.2.2.2.2.2.2.2.2.2.2.2.2.2.2.2.2.2.2.2.2.2.2.2.2.2.2.1) (c.2.2.2.2.2.2.2.2.2.2.2.2.2.2.2.2.2.2.2.2.2.2.2.2.2.2.2.2.2.2.2.2.2.2.2.2.2.1) (c.2.2.2.2.2.2.2.2.2.2.2.2.2.2.2.2.2.2.2.2.2.2.2.2.2.2.2.2.2.2.2.2.2.2.2.2.2.2.1) (c.2.2.2.2.2.2.2.2.2.2.2.2.2.2.2.2.2.2.2.2.2.2.2.2.2.2.2.2.2.2.2.2.2.2.2.2.2.2.2.1) (c.2.2.2.2.2.2.2.2.2.2.2.2.2.2.2.2.2.2.2.2.2.2.2.2.2.2.2.2.2.2.2.2.2.2.2.2.2.2.2.2.1) size (c.2.2.2.2.2.2.2.2.2.2.2.2.2.2.2.2.2.2.2.2.2.2.2.2.2.2.2.2.2.2.2.2.2.2.2.2.2.2.2.2.2.1) (c.2.2.2.2.2.2.2.2.2.2.2.2.2.2.2.2.2.2.2.2.2.2.2.2.2.2.2.2.2.2.2.2.2.2.2.2.2.2.2.2.2.2.1) (c.2.2.2.2.2.2.2.2.2.2.2.2.2.2.2.2.2.2.2.2.2.2.2.2.2.2.2.2.2.2.2.2.2.2.2.2.2.2.2.2.2.2.2)) T1.turn (fa, cd, o0, g, L, m₁, dl, dv, nd, drawn, il, iv, nw, cl, cv, tk9, hz6, hz7, tp, D, T, ta, tb, i, m₂, h10, tk10, g10, I, oI, ps1, ps2, co, bs, n1, n2, n3, n4, n5, X, vco, tz, h11, co2) size
end K_law
theorem law_holds : PySem.Challenge.rw_ij0089_01.Holds := hd fun w s₀ s₁ mg mb =>
  pickAll K_law.ne (P := fun c => K_law.P c.1 c.2.1 c.2.2.1 c.2.2.2.1 c.2.2.2.2) K_law.core (w, s₀, s₁, mg, mb)
end
end Mine
end
theorem PySem.Challenge.cw_ij0089_01_holds : PySem.Challenge.rw_ij0089_01.Holds :=
  Mine.law_holds
