import PyProof.Rows.All
import Wide.All
import OpenK.AllK
import Wide.FinOn
import KE.KRevIter
import PyProof.ToksMono
import PyProof.IsiH_list
import KE.KCallOwn
import KE.KSuperObj
import KE.KSuper
import PyProof.WalksPairs
import PyProof.EnumMake
import PyProof.EnumFor
import PyProof.EnumStmt
import PyProof.GenCompT
import PyProof.Rows.AttrNodeAny
import PyProof.JoinWalk
import PyProof.Rows.StrWeight2
import PyProof.RaisesMany
import PyProof.RulesTry
import PyProof.RulesFinally
import PyProof.ListIndexOut
import PyProof.Rows.ExtendIn
import PyProof.MeetsSeq
import PyProof.P3Eq
import OpenK.KMake
import PyProof.ListNew
import KE.KStar
import PyProof.Rows.StrInSeq
import PyProof.FString5
import KE.KNestM
import Lean
import PySem.Challenge.RW_tv0042_01
set_option Elab.async false
set_option maxRecDepth 100000
set_option maxHeartbeats 8000000
set_option linter.all false
set_option genSizeOf false
set_option genInjectivity false
open PySem PySem.W PyProof.Rows PySem.Spec PySem.Calls
def Mine.early : Stmt → Stmt
 | .FunctionDef n a b d r t s ts bi p => .FunctionDef n a (.Return (some (.Constant (.bool true) 0 p)) p :: b) d r t s ts bi p
 | s => s
def Mine.setLast (l : List Stmt) : List Stmt := l.dropLast ++ (l.getLast?.map Mine.early).toList
def Mine.prog0 : Program := { PySem.Challenge.pw_tv0042_01 with main := { PySem.Challenge.pw_tv0042_01.main with body := Mine.setLast PySem.Challenge.pw_tv0042_01.main.body } }
def Mine.row0 : OpenRow := { PySem.Challenge.rw_tv0042_01.row with prog := Mine.prog0 }
namespace Mine.pre
theorem tw590388290315067818 : True := ⟨⟩
theorem tw4619556323943839242 : True := ⟨⟩
theorem tw12595513604769963753 : True := ⟨⟩
theorem tw3094614900183604011 : True := ⟨⟩
theorem tw3477353313519419438 : True := ⟨⟩
theorem tw275263339855940770 : True := ⟨⟩
theorem tw5838006358791541968 : True := ⟨⟩
theorem tw456585482795024358 : True := ⟨⟩
theorem tw28029345213723098 : True := ⟨⟩
theorem tw17836189900678609782 : True := ⟨⟩
theorem tw18068141261202124008 : True := ⟨⟩
theorem tw10204019117609856550 : True := ⟨⟩
theorem tw15625995988735854195 : True := ⟨⟩
theorem tw9914731545334337457 : True := ⟨⟩
theorem tw3097859360267383691 : True := ⟨⟩
theorem tw2035697669160248337 : True := ⟨⟩
theorem tw7615275554976931207 : True := ⟨⟩
theorem tw18334436613972320873 : True := ⟨⟩
theorem tw3841362995048172961 : True := ⟨⟩
theorem tw9552730113335097103 : True := ⟨⟩
theorem tw3142542386609302197 : True := ⟨⟩
theorem tw5916611623707148302 : True := ⟨⟩
theorem tw6767112457854269605 : True := ⟨⟩
theorem tw14967782790706212462 : True := ⟨⟩
theorem tw1891802886393711113 : True := ⟨⟩
theorem tw7466802901070070636 : True := ⟨⟩
theorem tw14628187420673343983 : True := ⟨⟩
theorem tw17268093052136287145 : True := ⟨⟩
theorem tw17747810498848355795 : True := ⟨⟩
theorem tw8960298273192479886 : True := ⟨⟩
theorem tw7226070088885751544 : True := ⟨⟩
theorem tw1566006351459327484 : True := ⟨⟩
theorem tw17634280546446320765 : True := ⟨⟩
theorem tw9571515539528028750 : True := ⟨⟩
theorem tw8406826420958275948 : True := ⟨⟩
theorem tw8125289683539537955 : True := ⟨⟩
theorem tw698346005061455353 : True := ⟨⟩
theorem tw17670664521834963977 : True := ⟨⟩
theorem tw13702654961898353498 : True := ⟨⟩
theorem tw3331293935044646375 : True := ⟨⟩
theorem tw4286845863238312128 : True := ⟨⟩
theorem tw9293138973955870494 : True := ⟨⟩
theorem tw546099227143320219 : True := ⟨⟩
theorem tw4084086026405070310 : True := ⟨⟩
theorem tw17454632208202312435 : True := ⟨⟩
theorem tw16830677165564596964 : True := ⟨⟩
theorem tw13798339373520121222 : True := ⟨⟩
theorem tw2142029966526130302 : True := ⟨⟩
theorem tw2339367589048809781 : True := ⟨⟩
theorem tw10657489962057554541 : True := ⟨⟩
theorem tw5779897831729120596 : True := ⟨⟩
theorem tw9248483282066975539 : True := ⟨⟩
theorem tw7766291113635084844 : True := ⟨⟩
theorem tw10467903544787568591 : True := ⟨⟩
theorem tw15693231618869550497 : True := ⟨⟩
theorem tw2204125747762997160 : True := ⟨⟩
theorem tw868406912619844004 : True := ⟨⟩
theorem tw6907033906714537426 : True := ⟨⟩
theorem tw9181419433902100537 : True := ⟨⟩
theorem tw15489355944739424747 : True := ⟨⟩
theorem tw5568758830717608373 : True := ⟨⟩
theorem tw3744368537293892124 : True := ⟨⟩
theorem tw18302127490750121730 : True := ⟨⟩
theorem tw6170148345488586343 : True := ⟨⟩
theorem tw15364903961692622375 : True := ⟨⟩
theorem tw7907242505890983963 : True := ⟨⟩
theorem tw15233245896131659966 : True := ⟨⟩
theorem tw3745178552056971020 : True := ⟨⟩
theorem tw5896042150136470975 : True := ⟨⟩
theorem tw14504531411983417640 : True := ⟨⟩
theorem tw12464593357960378961 : True := ⟨⟩
theorem tw4067389917850719585 : True := ⟨⟩
theorem tw11686044155741065774 : True := ⟨⟩
theorem tw15123789955226152525 : True := ⟨⟩
theorem tw17947361977853104736 : True := ⟨⟩
theorem tw11661489554611879777 : True := ⟨⟩
theorem tw13305933163451760600 : True := ⟨⟩
theorem tw11600251252059698432 : True := ⟨⟩
theorem tw8077660925545611655 : True := ⟨⟩
theorem tw2924357142288256476 : True := ⟨⟩
theorem tw11383056963669434997 : True := ⟨⟩
theorem tw6468908739991884073 : True := ⟨⟩
theorem tw8220757499984453353 : True := ⟨⟩
theorem tw6327315350404671063 : True := ⟨⟩
theorem tw2572576715449792082 : True := ⟨⟩
theorem tw13630702521820655686 : True := ⟨⟩
theorem tw8807187873865674685 : True := ⟨⟩
theorem tw8089614636097026548 : True := ⟨⟩
theorem tw17813032836175352512 : True := ⟨⟩
theorem tw9048862158676561846 : True := ⟨⟩
theorem tw18353081439011116257 : True := ⟨⟩
theorem tw17171853630340306582 : True := ⟨⟩
theorem tw4936351757903562790 : True := ⟨⟩
theorem tw12701294055307798758 : True := ⟨⟩
theorem tw7871981215989793078 : True := ⟨⟩
theorem tw12465533948053986477 : True := ⟨⟩
theorem tw11477163547676270809 : True := ⟨⟩
theorem tw13924473152081393076 : True := ⟨⟩
theorem tw6926492576228361084 : True := ⟨⟩
theorem tw18320262050320308368 : True := ⟨⟩
theorem tw1083846401382969032 : True := ⟨⟩
theorem tw10556904025073309525 : True := ⟨⟩
theorem tw10408196067039045116 : True := ⟨⟩
theorem tw13155615532978356968 : True := ⟨⟩
theorem tw12600001335209363398 : True := ⟨⟩
theorem tw10125758760863536837 : True := ⟨⟩
theorem tw17680803279675618773 : True := ⟨⟩
theorem tw2793876952464144092 : True := ⟨⟩
theorem tw11967863500246565877 : True := ⟨⟩
theorem tw9269883197500966196 : True := ⟨⟩
theorem tw8599402730897727845 : True := ⟨⟩
theorem tw18233255370621244900 : True := ⟨⟩
theorem tw10251759765297449335 : True := ⟨⟩
theorem tw7744840787576684945 : True := ⟨⟩
theorem tw6232320607302061507 : True := ⟨⟩
theorem tw18027193599098250407 : True := ⟨⟩
theorem tw1047120459358279703 : True := ⟨⟩
theorem tw17070133332105845622 : True := ⟨⟩
theorem tw16785959692537240356 : True := ⟨⟩
theorem tw8930836413682506088 : True := ⟨⟩
theorem tw6437931551330290438 : True := ⟨⟩
theorem tw15577061551490466234 : True := ⟨⟩
theorem tw13048787070281555549 : True := ⟨⟩
theorem tw1050892389064381581 : True := ⟨⟩
theorem tw1220156853476297361 : True := ⟨⟩
theorem tw17779947637784298742 : True := ⟨⟩
theorem tw13954526434592077084 : True := ⟨⟩
theorem tw9755709050763076478 : True := ⟨⟩
theorem tw12209519486425430729 : True := ⟨⟩
theorem tw6113954290827025372 : True := ⟨⟩
theorem tw15384540385098350899 : True := ⟨⟩
theorem tw6027166026388233240 : True := ⟨⟩
theorem tw5504704829203286782 : True := ⟨⟩
theorem tw13503923098360568469 : True := ⟨⟩
theorem tw16614349812334507722 : True := ⟨⟩
theorem tw3955983160652177813 : True := ⟨⟩
theorem tw16268650808249262707 : True := ⟨⟩
theorem tw7569232922502155860 : True := ⟨⟩
theorem tw16520217711010471092 : True := ⟨⟩
theorem tw9315323111575073388 : True := ⟨⟩
theorem tw2749649739559614557 : True := ⟨⟩
theorem tw6598987100012212614 : True := ⟨⟩
theorem tw16852057512633287067 : True := ⟨⟩
theorem tw1167468095371924960 : True := ⟨⟩
theorem tw15353535704898639103 : True := ⟨⟩
theorem tw17844419999514078010 : True := ⟨⟩
theorem tw235555817698774555 : True := ⟨⟩
theorem tw1558150184486289097 : True := ⟨⟩
theorem tw17373973320644317417 : True := ⟨⟩
theorem tw16058929423575460821 : True := ⟨⟩
theorem tw1385352955633275780 : True := ⟨⟩
theorem tw9238746042885938319 : True := ⟨⟩
theorem tw899124743068861042 : True := ⟨⟩
theorem tw5602671513192827635 : True := ⟨⟩
theorem tw4592789736104886690 : True := ⟨⟩
theorem tw3075770761106440465 : True := ⟨⟩
theorem tw2432886682013690578 : True := ⟨⟩
theorem tw2397827621436535734 : True := ⟨⟩
theorem tw15217727220281956571 : True := ⟨⟩
theorem tw12455990067847257688 : True := ⟨⟩
theorem tw5497643321735027644 : True := ⟨⟩
theorem tw11832514201138764445 : True := ⟨⟩
theorem tw7190905415377987725 : True := ⟨⟩
theorem tw13344253833810582256 : True := ⟨⟩
theorem tw13511625669976193069 : True := ⟨⟩
theorem tw12444740210674830803 : True := ⟨⟩
theorem tw5265556644796053535 : True := ⟨⟩
theorem tw5559670671026103597 : True := ⟨⟩
theorem tw10895488247777486873 : True := ⟨⟩
theorem tw13447196603976731960 : True := ⟨⟩
theorem tw6548938536104458511 : True := ⟨⟩
theorem tw15552298541256452641 : True := ⟨⟩
theorem tw10006983352648288001 : True := ⟨⟩
theorem tw9966088280660723746 : True := ⟨⟩
theorem tw5185967812794802750 : True := ⟨⟩
theorem tw14260151419931908678 : True := ⟨⟩
theorem tw2302775849342015749 : True := ⟨⟩
theorem tw11632232044515301145 : True := ⟨⟩
theorem tw9948208398504503780 : True := ⟨⟩
theorem tw9354241043653843321 : True := ⟨⟩
theorem tw8729141346455856134 : True := ⟨⟩
theorem tw8646183201884414562 : True := ⟨⟩
theorem tw833301866567259626 : True := ⟨⟩
theorem tw8301558168250483144 : True := ⟨⟩
theorem tw8113819696807641309 : True := ⟨⟩
theorem tw6567427038174304042 : True := ⟨⟩
theorem tw6260126215559185383 : True := ⟨⟩
theorem tw6204301905142194262 : True := ⟨⟩
theorem tw5974860125168666142 : True := ⟨⟩
theorem tw578446559104950318 : True := ⟨⟩
theorem tw5155193400670720939 : True := ⟨⟩
theorem tw4886116117891900527 : True := ⟨⟩
theorem tw4866971608788673576 : True := ⟨⟩
theorem tw4189212242694403473 : True := ⟨⟩
theorem tw3653203284003021278 : True := ⟨⟩
theorem tw3583441638673829862 : True := ⟨⟩
theorem tw3539868169495542887 : True := ⟨⟩
theorem tw3539277104568050316 : True := ⟨⟩
theorem tw3056967183029245664 : True := ⟨⟩
theorem tw30198436418510105 : True := ⟨⟩
theorem tw2842862063813979719 : True := ⟨⟩
theorem tw2494791040518364336 : True := ⟨⟩
theorem tw2346428165239446087 : True := ⟨⟩
theorem tw2256743641975187207 : True := ⟨⟩
theorem tw2165444987737528205 : True := ⟨⟩
theorem tw1961266365660868435 : True := ⟨⟩
theorem tw1847581664246446794 : True := ⟨⟩
theorem tw18236615629503518134 : True := ⟨⟩
theorem tw17434239335780912936 : True := ⟨⟩
theorem tw17224984220818489609 : True := ⟨⟩
theorem tw17127464042920951563 : True := ⟨⟩
theorem tw17028943642903203401 : True := ⟨⟩
theorem tw16676685420422431488 : True := ⟨⟩
theorem tw16187767858317590155 : True := ⟨⟩
theorem tw16009375183914227583 : True := ⟨⟩
theorem tw15841260612945868693 : True := ⟨⟩
theorem tw15812367493763553726 : True := ⟨⟩
theorem tw15416329323232597108 : True := ⟨⟩
theorem tw14844808246951043556 : True := ⟨⟩
theorem tw14604634542777377977 : True := ⟨⟩
theorem tw14504007709385416882 : True := ⟨⟩
theorem tw14177746915815934671 : True := ⟨⟩
theorem tw13839825171144383216 : True := ⟨⟩
theorem tw12723660185843396471 : True := ⟨⟩
theorem tw124356168213406971 : True := ⟨⟩
theorem tw12329847798736442354 : True := ⟨⟩
theorem tw12274083203712686582 : True := ⟨⟩
theorem tw12109822677291299447 : True := ⟨⟩
theorem tw12058416156572183381 : True := ⟨⟩
theorem tw11422953727881016366 : True := ⟨⟩
theorem tw11389374557681466464 : True := ⟨⟩
theorem tw11368260480374895074 : True := ⟨⟩
theorem tw1134953709659117593 : True := ⟨⟩
theorem tw10933684431934463483 : True := ⟨⟩
theorem tw10832435889686368783 : True := ⟨⟩
theorem tw10584150303738031772 : True := ⟨⟩
end Mine.pre
set_option Elab.async true in
theorem Mine.pre : Mine.row0.Holds := by
 w_on; k_head; (case hw => w_witness2)
 k_go
noncomputable def Mine.K0 (q : Params) : Frag := (Mine.pre.heap_1_1 q).filter fun e => e.1 != 259
namespace Mine
section
section
theorem method_bi {prog : Program} {w : World} {A : Around} {E : Value → Shared → Prop} {s : Shared} {K : Frag} {x C : Addr} {ox : Obj} {od : Option Obj} {name : Str} {pl : Sem Bool} {Q : Value × List Value → Shared → Prop} {b ga : String}
  (X : K.In s.heap) (I : InstAt s.heap x ox C od) (hga : findIn K (.ref C) "__getattribute__" = some (some (.builtin ga))) (hcan : (Manifest.canonical ga != "object.__getattribute__") = false) (hk : findIn K (.ref C) "__getattr__" = some none)
  (hf : findIn K (.ref C) name = some (some (.builtin b))) (ht : typeIn K (.builtin b) = some (.type "method_descriptor")) (hs : shadowIn od name = some false) (h : Q (.builtin b, [.ref x]) s) :
  wpAny (model prog w) A (getMethod (.ref x) name pl) Q E s := by
 unfold getMethod specialOf
 refine wpAny_bind (wpAny_bind (I.type.here ((looks_findIn X hga).here ?_)))
 dsimp only
 rw [hcan, if_neg (by decide)]
 refine wpAny_bind (wpAny_bind (I.type.here ((looks_findIn X hk).here ?_)))
 refine wpAny_bind (wpAny_bind (I.type.here ((looks_findIn X hf).here (wpAny_bind ((looks_typeIn X ht).here ?_)))))
 rw [if_neg (by decide +kernel)]
 refine wpAny_bind (wpAny_loadPart I.at_ ?_)
 have hd := I.dict
 cases e : ox.dict with
 | none => exact wpAny_bind (wpAny_rule (wpAny_pure h))
 | some dx =>
  cases od with
  | none => rw [e] at hd; exact hd.elim
  | some o =>
   rw [e] at hd
   obtain ⟨r, a, b⟩ := Option.map_eq_some_iff.mp hs
   refine wpAny_bind (wpAny_bind (wpAny_loadPart hd ?_))
   rw [nsLook_of a]
   refine wpAny_pure ?_
   rw [b]
   exact wpAny_bind (wpAny_rule (wpAny_pure h))
theorem method_bi2 {prog : Program} {w : World} {A : Around} {E : Value → Shared → Prop} {s : Shared} {K : Frag} {x C : Addr} {ox : Obj} {es : List DictEntry} {n : Nat} {name : Str} {pl : Sem Bool} {Q : Value × List Value → Shared → Prop} {b ga : String}
  (X : K.In s.heap) (I : InstAt s.heap x ox C (some (dictOf es n))) (hga : findIn K (.ref C) "__getattribute__" = some (some (.builtin ga))) (hk : findIn K (.ref C) "__getattr__" = some none)
  (hf : findIn K (.ref C) name = some (some (.builtin b))) (ht : typeIn K (.builtin b) = some (.type "method_descriptor")) (hs : getL name es = some none) (hcan : (Manifest.canonical ga != "object.__getattribute__") = false) (h : Q (.builtin b, [.ref x]) s) :
  wpAny (model prog w) A (getMethod (.ref x) name pl) Q E s :=
 method_bi X I hga hcan hk hf ht (by show (lookIn name (dictOf es n)).map _ = _; rw [lookIn_dict, hs]; rfl) h
theorem check_sub {M : Model} {A : Around} {E : Value → Shared → Prop} {s : Shared} {i owner n : String} {self : Value} {rest : List Value} {kw : List (Str × Value)} {Q : Unit → Shared → Prop}
  (hk : builtinKind i = some .slot ∨ builtinKind i = some .method) (hs : splitId i = some (owner, n)) (hi : Looks M s.heap (isInstance self (.type owner)) true) (ha : argsOk i ⟨self :: rest, kw⟩) (q : Q () s) :
  wpAny M A (checkBuiltinCall i ⟨self :: rest, kw⟩) Q E s := by
 rcases hk with hk | hk <;>
 ·simp only [checkBuiltinCall, hk, hs]
  refine wpAny_bind (hi.here ?_)
  simp only [Bool.not_true, Bool.false_eq_true, if_false]
  cases hsig : Manifest.signature? i with
  | none => exact wpAny_pure q
  | some sig =>
   simp only [argsOk, hsig] at ha
   have h2 : Bind.checkArgs i sig ⟨self :: rest, kw⟩ = pure () := ha
   show wpAny M A (Bind.checkArgs i sig ⟨self :: rest, kw⟩) Q E s
   rw [h2]; exact wpAny_pure q
theorem call_sub {prog : Program} {w : World} {A : Around} {E : Value → Shared → Prop} {s : Shared} {id owner n : String} {b : Builtin} {self : Value} {rest : List Value} {Q : Value → Shared → Prop}
  (hk : builtinKind id = some .slot ∨ builtinKind id = some .method) (hs : splitId id = some (owner, n)) (hp : plainId id = true) (hb : entryFor table id = some b) (hi : Looks (model prog w) s.heap (isInstance self (.type owner)) true)
  (ha : argsOk id ⟨self :: rest, []⟩)
  (hc : wpAny (model prog w) A.in1 (b ⟨self :: rest, []⟩) (fun fin s' => ∃ v, fin = .done (.ret v) ∧ Q v s') E s) : wpAny (model prog w) A (call (.builtin id) (self :: rest)) Q E s := by
 refine wpAny_call (codeAny_call_builtin hp hb (check_sub hk hs hi ha (wpAny_mono hc (fun fin s' h' => ?_) fun _ _ h' => h')))
 obtain ⟨v, rfl, hv⟩ := h'; exact hv
theorem inst_looks {K : Frag} {M : Model} {h : Heap} {x C : Addr} {ox : Obj} {od : Option Obj} {base : Value} {r : Bool} (X : K.In h) (I : InstAt h x ox C od) (e : mroIn K C base = some r) : Looks M h (isInstance (.ref x) base) r :=
 I.type.andThen (looks_mroIn X e)
section
variable {prog : Program} {w : World} {A : Around} {E : Value → Shared → Prop} {s : Shared} {h₀ : Heap} {L : Addr} {m : Str → Option Value} {news news' : List (Addr × Obj)} {K : Frag} {x C dx : Addr} {od : Obj}
end
end
end
section
section
theorem cps {p : Prop} (h : ∀ G : Prop, (p → G) → G) : p := h p id
theorem bind_of {α β : Type} {o : Option α} {f : α → Option β} {a : α} {b : Option β} (e : o = some a) (e2 : f a = b) : o.bind f = b := by rw [e]; exact e2
theorem obp {α β : Type} {o : Option α} {f : α → Option β} {r : β} {C : Prop} (h : o.bind f = some r) (k : ∀ x, o = some x → f x = some r → C) : C := by
 cases o with
 | none => cases h
 | some x => exact k x rfl h
theorem obp2 {α β γ : Type} {o : Option (α × β)} {f : α × β → Option γ} {r : γ} {C : Prop} (h : o.bind f = some r) (k : ∀ x y, o = some (x, y) → f (x, y) = some r → C) : C := obp h fun x => k x.1 x.2
theorem obp3 {α β γ δ : Type} {o : Option (α × β × γ)} {f : α × β × γ → Option δ} {r : δ} {C : Prop} (h : o.bind f = some r) (k : ∀ x y z, o = some (x, y, z) → f (x, y, z) = some r → C) : C := obp h fun x => k x.1 x.2.1 x.2.2
theorem obp4 {α β γ δ ε : Type} {o : Option (α × β × γ × δ)} {f : α × β × γ × δ → Option ε} {r : ε} {C : Prop} (h : o.bind f = some r) (k : ∀ x y z u, o = some (x, y, z, u) → f (x, y, z, u) = some r → C) : C := obp h fun x => k x.1 x.2.1 x.2.2.1 x.2.2.2
theorem omp {α β : Type} {o : Option α} {f : α → β} {r : β} {C : Prop} (h : o.map f = some r) (k : ∀ x, o = some x → f x = r → C) : C := by
 cases o with
 | none => cases h
 | some x => exact k x rfl (Option.some.inj h)
theorem omp2 {α β γ : Type} {o : Option (α × β)} {f : α × β → γ} {r : γ} {C : Prop} (h : o.map f = some r) (k : ∀ x y, o = some (x, y) → f (x, y) = r → C) : C := omp h fun x => k x.1 x.2
theorem omp3 {α β γ δ : Type} {o : Option (α × β × γ)} {f : α × β × γ → δ} {r : δ} {C : Prop} (h : o.map f = some r) (k : ∀ x y z, o = some (x, y, z) → f (x, y, z) = r → C) : C := omp h fun x => k x.1 x.2.1 x.2.2
theorem ifo {α : Type} {c : Prop} [Decidable c] {o : Option α} {y : α} {C : Prop} (h : (if c then o else none) = some y) (k : c → o = some y → C) : C := by
 by_cases q : c
 ·rw [if_pos q] at h; exact k q h
 ·rw [if_neg q] at h; cases h
theorem ifs {α : Type} {c : Prop} [Decidable c] {x y : α} {C : Prop} (h : (if c then some x else none) = some y) (k : c → x = y → C) : C := ifo h fun q e => k q (Option.some.inj e)
theorem nn {α : Type} {x : α} {C : Prop} (h : Option.none = some x) : C := by cases h
theorem orp {α : Type} {o p : Option α} {r : α} (h : o.or p = some r) : o = some r ∨ p = some r := by
 cases o with
 | none => exact .inr h
 | some x => exact .inl h
inductive V where
 | none | bool (b : Bool) | int (i : Int) | str (s : Str) | tup (xs : List V) | lst (xs : List V) | ref (i : Nat) | rng (a : Int) (n : Nat) | typ (n : String) | tok (X : Value)
inductive AO where
 | list (xs : List V)
 | inst (C : Addr) (sq : Option (List V)) (fs : List (Str × V))
noncomputable abbrev Cell := Addr × Option Addr
noncomputable def cellAs (c : Cell) : List Addr := c.1 :: c.2.toList
noncomputable def mutA (ρ : List Cell) : List Addr := ρ.flatMap cellAs
theorem mutA_append (a b : List Cell) : mutA (a ++ b) = mutA a ++ mutA b := List.flatMap_append
theorem mem_mutA {ρ : List Cell} {i : Nat} {c : Cell} (h : ρ[i]? = some c) {a : Addr} (ha : a ∈ cellAs c) : a ∈ mutA ρ :=
 List.mem_flatMap.mpr ⟨c, List.mem_of_getElem? h, ha⟩
noncomputable abbrev tupO (vs : List Value) : Obj := { cls := .type "tuple", data := .seq vs.toArray }
noncomputable abbrev lstO (vs : List Value) (n : Nat) : Obj := { cls := .type "list", data := .seq vs.toArray n }
mutual
inductive VR (P : Addr → Obj → Prop) (ρ : List Cell) : V → Value → Prop where
 | none : VR P ρ .none .none
 | bool (b) : VR P ρ (.bool b) (.bool b)
 | int (i t) : VR P ρ (.int i) (.int i t)
 | str (x t) : VR P ρ (.str x) (.str x t)
 | typ (n) : VR P ρ (.typ n) (.type n)
 | tok (X) : handedIn X = true → VR P ρ (.tok X) X
 | tup {xs a vs} : P a (tupO vs) → VRs P ρ xs vs → VR P ρ (.tup xs) (.ref a)
 | lst {xs a vs n} : P a (lstO vs n) → VRs P ρ xs vs → VR P ρ (.lst xs) (.ref a)
 | ref {i c} : ρ[i]? = some c → VR P ρ (.ref i) (.ref c.1)
 | rng {x : Int} {n : Nat} {r t u v} : P r { cls := .type "range", data := .fields #[.int x t, .int (x + (n : Int)) u, .int 1 v] } → VR P ρ (.rng x n) (.ref r)
inductive VRs (P : Addr → Obj → Prop) (ρ : List Cell) : List V → List Value → Prop where
 | nil : VRs P ρ [] []
 | cons {x v xs vs} : VR P ρ x v → VRs P ρ xs vs → VRs P ρ (x :: xs) (v :: vs)
end
noncomputable def FlatD (o : Obj) : Prop := match o.data with | .seq .. => True | .fields .. => True | _ => False
noncomputable def Flat (o : Obj) : Prop := FlatD o ∧ (o.cls = .type "tuple" ∨ o.cls = .type "list" ∨ o.cls = .type "range")
section
variable {P P' : Addr → Obj → Prop} {ρ ρ' : List Cell}
theorem VRs.ind {m : List V → List Value → Prop} (nil : m [] []) (cons : ∀ {x v xs vs}, VR P ρ x v → VRs P ρ xs vs → m xs vs → m (x :: xs) (v :: vs)) {xs vs} (h : VRs P ρ xs vs) : m xs vs :=
 VRs.rec (motive_1 := fun _ _ _ => True) (motive_2 := fun xs vs _ => m xs vs) trivial (fun _ => trivial) (fun _ _ => trivial) (fun _ _ => trivial) (fun _ => trivial) (fun _ _ => trivial) (fun _ _ _ => trivial) (fun _ _ _ => trivial) (fun _ => trivial) (fun _ => trivial) nil (fun h hs _ ih => cons h hs ih) h
theorem VR.monoF (hp : ∀ a o, P a o → Flat o → P' a o) (hr : ∀ (i : Nat) c, ρ[i]? = some c → ρ'[i]? = some c) {x v} (h : VR P ρ x v) : VR P' ρ' x v :=
 VR.rec (motive_1 := fun x v _ => VR P' ρ' x v) (motive_2 := fun xs vs _ => VRs P' ρ' xs vs) .none .bool .int .str .typ .tok (fun h _ ih => .tup (hp _ _ h ⟨trivial, .inl rfl⟩) ih) (fun h _ ih => .lst (hp _ _ h ⟨trivial, .inr (.inl rfl)⟩) ih) (fun h => .ref (hr _ _ h)) (fun h => .rng (hp _ _ h ⟨trivial, .inr (.inr rfl)⟩)) .nil (fun _ _ a b => .cons a b) h
theorem VRs.monoF (hp : ∀ a o, P a o → Flat o → P' a o) (hr : ∀ (i : Nat) c, ρ[i]? = some c → ρ'[i]? = some c) {xs vs} (h : VRs P ρ xs vs) : VRs P' ρ' xs vs := h.ind (m := VRs P' ρ') .nil fun a _ b => .cons (a.monoF hp hr) b
theorem VR.mono (hp : ∀ a o, P a o → P' a o) (hr : ∀ (i : Nat) c, ρ[i]? = some c → ρ'[i]? = some c) {x v} (h : VR P ρ x v) : VR P' ρ' x v := h.monoF (fun a o z _ => hp a o z) hr
theorem VRs.mono (hp : ∀ a o, P a o → P' a o) (hr : ∀ (i : Nat) c, ρ[i]? = some c → ρ'[i]? = some c) {xs vs} (h : VRs P ρ xs vs) : VRs P' ρ' xs vs := h.monoF (fun a o z _ => hp a o z) hr
theorem VRs.length {xs vs} (h : VRs P ρ xs vs) : xs.length = vs.length := h.ind (m := fun xs vs => xs.length = vs.length) rfl fun _ _ e => congrArg (· + 1) e
theorem VRs.get {xs vs} (h : VRs P ρ xs vs) : ∀ {i : Nat} {x}, xs[i]? = some x → ∃ v, vs[i]? = some v ∧ VR P ρ x v :=
 h.ind (m := fun xs vs => ∀ {i : Nat} {x}, xs[i]? = some x → ∃ v, vs[i]? = some v ∧ VR P ρ x v) (fun e => nomatch e) fun {_ _ _ _} a _ ih {i _} => Nat.casesOn i (fun e => ⟨_, rfl, Option.some.inj e ▸ a⟩) fun j e => ih (i := j) e
theorem VRs.append {xs vs ys ws} (h : VRs P ρ xs vs) (k : VRs P ρ ys ws) : VRs P ρ (xs ++ ys) (vs ++ ws) := h.ind (m := fun xs vs => VRs P ρ (xs ++ ys) (vs ++ ws)) k fun a _ b => .cons a b
theorem VRs.take {xs vs} (h : VRs P ρ xs vs) : ∀ n : Nat, VRs P ρ (xs.take n) (vs.take n) :=
 h.ind (m := fun xs vs => ∀ n : Nat, VRs P ρ (xs.take n) (vs.take n)) (fun n => by cases n <;> exact .nil) fun a _ ih n => Nat.casesOn n .nil fun n => .cons a (ih n)
theorem VRs.drop {xs vs} (h : VRs P ρ xs vs) : ∀ n : Nat, VRs P ρ (xs.drop n) (vs.drop n) :=
 h.ind (m := fun xs vs => ∀ n : Nat, VRs P ρ (xs.drop n) (vs.drop n)) (fun n => by cases n <;> exact .nil) fun a b ih n => Nat.casesOn n (.cons a b) ih
noncomputable def VRI (P : Addr → Obj → Prop) (ρ : List Cell) : V → Value → Prop
 | .none, X => X = .none
 | .bool b, X => X = .bool b
 | .int i, X => ∃ t, X = .int i t
 | .str x, X => ∃ t, X = .str x t
 | .tup xs, X => ∃ a vs, X = .ref a ∧ P a (tupO vs) ∧ VRs P ρ xs vs
 | .lst xs, X => ∃ a vs n, X = .ref a ∧ P a (lstO vs n) ∧ VRs P ρ xs vs
 | .ref i, X => ∃ c, ρ[i]? = some c ∧ X = .ref c.1
 | .rng x n, X => ∃ r t u v, X = .ref r ∧ P r { cls := .type "range", data := .fields #[.int x t, .int (x + (n : Int)) u, .int 1 v] }
 | .typ n, X => X = .type n
 | .tok Y, X => X = Y ∧ handedIn Y = true
theorem VR.inv {x X} (h : VR P ρ x X) : VRI P ρ x X :=
 VR.casesOn (motive_1 := fun x X _ => VRI P ρ x X) h rfl (fun _ => rfl) (fun _ t => ⟨t, rfl⟩) (fun _ t => ⟨t, rfl⟩) (fun _ => rfl) (fun _ h => ⟨rfl, h⟩) (fun h hs => ⟨_, _, rfl, h, hs⟩) (fun h hs => ⟨_, _, _, rfl, h, hs⟩) (fun h => ⟨_, h, rfl⟩) (fun h => ⟨_, _, _, _, rfl, h⟩)
noncomputable def VRsI (P : Addr → Obj → Prop) (ρ : List Cell) : List V → List Value → Prop
 | [], vs => vs = []
 | x :: xs, vs => ∃ w ws, vs = w :: ws ∧ VR P ρ x w ∧ VRs P ρ xs ws
theorem VRs.inv {xs vs} (h : VRs P ρ xs vs) : VRsI P ρ xs vs := h.ind (m := VRsI P ρ) rfl fun a b _ => ⟨_, _, rfl, a, b⟩
theorem VRs.inv1 {x vs} (h : VRs P ρ [x] vs) : ∃ w, vs = [w] ∧ VR P ρ x w := by
 obtain ⟨w, ws, rfl, h1, h2⟩ := h.inv
 cases h2.inv
 exact ⟨w, rfl, h1⟩
theorem VRs.inv2 {x y vs} (h : VRs P ρ [x, y] vs) : ∃ w u, vs = [w, u] ∧ VR P ρ x w ∧ VR P ρ y u := by
 obtain ⟨w, ws, rfl, h1, h2⟩ := h.inv
 obtain ⟨u, rfl, h3⟩ := h2.inv1
 exact ⟨w, u, rfl, h1, h3⟩
end
inductive FRs (w : World) (P : Addr → Obj → Prop) (ρ : List Cell) : List (Str × V) → List DictEntry → Prop where
 | nil : FRs w P ρ [] []
 | cons {x v t V fs es} : VR P ρ v V → FRs w P ρ fs es → FRs w P ρ ((x, v) :: fs) (⟨PyData.keyHash w.params x, .str x t, V⟩ :: es)
theorem FRs.monoF {w : World} {P P' : Addr → Obj → Prop} {ρ ρ' : List Cell} (hp : ∀ a o, P a o → Flat o → P' a o) (hr : ∀ (i : Nat) c, ρ[i]? = some c → ρ'[i]? = some c) {fs es} (h : FRs w P ρ fs es) : FRs w P' ρ' fs es :=
 FRs.rec (motive := fun fs es _ => FRs w P' ρ' fs es) .nil (fun a _ b => .cons (a.monoF hp hr) b) h
theorem FRs.mono {w : World} {P P' : Addr → Obj → Prop} {ρ ρ' : List Cell} (hp : ∀ a o, P a o → P' a o) (hr : ∀ (i : Nat) c, ρ[i]? = some c → ρ'[i]? = some c) {fs es} (h : FRs w P ρ fs es) : FRs w P' ρ' fs es := h.monoF (fun a o z _ => hp a o z) hr
noncomputable def OR (w : World) (h : Heap) (P : Addr → Obj → Prop) (ρ : List Cell) (c : Cell) : AO → Prop
 | .list xs => c.2 = none ∧ ∃ vs n, h.get? c.1 = some (lstO vs n) ∧ VRs P ρ xs vs
 | .inst C none fs => ∃ d es n, c.2 = some d ∧ h.get? c.1 = some ⟨.ref C, some d, .plain, #[]⟩ ∧ h.get? d = some (dictOf es n) ∧ FRs w P ρ fs es
 | .inst C (some xs) fs => ∃ d es n vs k, c.2 = some d ∧ h.get? c.1 = some ⟨.ref C, some d, .seq vs.toArray k, #[]⟩ ∧ VRs P ρ xs vs ∧ h.get? d = some (dictOf es n) ∧ FRs w P ρ fs es
theorem OR.monoF {w : World} {h h' : Heap} {P P' : Addr → Obj → Prop} {ρ ρ' : List Cell} {c : Cell} (hk : ∀ a ∈ cellAs c, ∀ o, h.get? a = some o → h'.get? a = some o) (hp : ∀ a o, P a o → Flat o → P' a o) (hr : ∀ (i : Nat) c, ρ[i]? = some c → ρ'[i]? = some c) :
  ∀ {o}, OR w h P ρ c o → OR w h' P' ρ' c o := fun {o} => by
 have hd : ∀ d, c.2 = some d → ∀ o, h.get? d = some o → h'.get? d = some o := fun d e => hk d (by unfold cellAs; rw [e]; exact .tail _ (.head _))
 exact AO.casesOn (motive := fun o => OR w h P ρ c o → OR w h' P' ρ' c o) o (fun _ z => ⟨z.1, z.2.imp fun _ => .imp fun _ z => ⟨hk _ (.head _) _ z.1, z.2.monoF hp hr⟩⟩) fun C sq fs =>
  Option.casesOn (motive := fun sq => OR w h P ρ c (.inst C sq fs) → OR w h' P' ρ' c (.inst C sq fs)) sq (.imp fun d => .imp fun _ => .imp fun _ z => ⟨z.1, hk _ (.head _) _ z.2.1, hd d z.1 _ z.2.2.1, z.2.2.2.monoF hp hr⟩)
   fun _ => .imp fun d => .imp fun _ => .imp fun _ => .imp fun _ => .imp fun _ z => ⟨z.1, hk _ (.head _) _ z.2.1, z.2.2.1.monoF hp hr, hd d z.1 _ z.2.2.2.1, z.2.2.2.2.monoF hp hr⟩
theorem OR.mono {w : World} {h h' : Heap} {P P' : Addr → Obj → Prop} {ρ ρ' : List Cell} {c : Cell} (hk : ∀ a ∈ cellAs c, ∀ o, h.get? a = some o → h'.get? a = some o) (hp : ∀ a o, P a o → P' a o) (hr : ∀ (i : Nat) c, ρ[i]? = some c → ρ'[i]? = some c) {o} (z : OR w h P ρ c o) : OR w h' P' ρ' c o := z.monoF hk (fun a o z _ => hp a o z) hr
noncomputable def HInv (w : World) (h : Heap) (P : Addr → Obj → Prop) (ρ : List Cell) (H : List AO) : Prop :=
 ρ.length = H.length ∧ ∀ (i : Nat) c o, ρ[i]? = some c → H[i]? = some o → OR w h P ρ c o
noncomputable def TBs : List (Addr × Addr) := [(144, 140), (151, 147)]
noncomputable def TB : List Addr := [140, 147]
noncomputable def TInv (h : Heap) : Prop := ∀ q ∈ TBs, ∃ ps, h.TableAt q.1 q.2 ps ∧ h.IsCode q.1 q.2 ps
theorem TInv.mono {h h' : Heap} (x : TInv h) (k : ∀ b o, h.get? b = some o → h'.get? b = some o) : TInv h' := fun q hq =>
 let ⟨ps, a, b⟩ := x q hq; ⟨ps, a.keeps k, b.keeps k⟩
end
end
section
section
structure Wd where
 prog : Program
 w : World
 K : Frag
 p : Program
 loose : List Str
 mean : ExcName → Option Value
 mg : Str → Option Value
 mb : Str → Option Value
noncomputable abbrev Wd.M (W : Wd) : Model := model W.prog W.w
structure Bs where
 b : Heap
 X : List Addr
 h0 : Heap
 F : List Addr
noncomputable def UpX (X F : List Addr) (h0 h : Heap) : Prop := ∀ a ∈ X, ∃ o o', h0.get? a = some o ∧ h.get? a = some o' ∧ o'.data = o.data ∧ (o' = o ∨ a ∈ F)
theorem UpX.keep {X F : List Addr} {h0 h h' : Heap} (u : UpX X F h0 h) (k : ∀ b o, b ∈ X → h.get? b = some o → h'.get? b = some o) : UpX X F h0 h' := fun a ha =>
 (u a ha).imp fun _ => .imp fun _ z => ⟨z.1, k a _ ha z.2.1, z.2.2⟩
theorem UpX.trans {X F : List Addr} {h0 h h' : Heap} (u : UpX X F h0 h) (v : UpX X F h h') : UpX X F h0 h' := fun a ha =>
 (u a ha).imp fun _ => .rec fun o1 z => (v a ha).elim fun o2 => .imp fun _ y => by
  have q : o2 = o1 := Option.some.inj (y.1.symm.trans z.2.1)
  subst q
  exact ⟨z.1, y.2.1, y.2.2.1.trans z.2.2.1, y.2.2.2.elim (fun e => e ▸ z.2.2.2) .inr⟩
structure Fx where
 A : Around
 env : Env
 g : Heap
 L : Addr
 names : List (Str × Option Addr)
 base : Bs
 fr : List Env
 lv : Nat
noncomputable def Fx.cells (Φ : Fx) : List Addr := Φ.names.filterMap (·.2)
noncomputable def Fx.T (Φ : Fx) : List Addr := TB ++ Φ.base.X
noncomputable def Fx.M (Φ : Fx) (ρ : List Cell) : List Addr := Φ.L :: (Φ.cells ++ (mutA ρ ++ Φ.T))
noncomputable def Fx.P (Φ : Fx) (ρ : List Cell) (h : Heap) : Addr → Obj → Prop := fun a o => h.get? a = some o ∧ a ∉ Φ.M ρ
structure Fx.Ok (W : Wd) (Φ : Fx) : Prop where
 K : W.K.In Φ.g
 T : Top W.p W.loose W.mean W.mg W.mb Φ.g
 frames : Φ.A.frames = some Φ.fr
 stays : Φ.base.b.StaysIn Φ.g
 stack : ∀ h, (∃ m, Fr Φ.g Φ.L h m) → UpX Φ.base.X Φ.base.F Φ.base.h0 h → h.FunFrames Φ.base.b Φ.fr
 off : ∀ e ∈ Φ.fr, e.frame = some Φ.L ∨ (∃ b o, e.frame = some b ∧ Φ.g.get? b = some o) ∨ ∃ b ∈ Φ.base.X, e.frame = some b
 hh : Φ.A.handled = none
 loc : Φ.env.locals = Φ.L
 glob : Φ.env.globals = mainGlobals
 bi : Φ.env.builtins = builtinsNs
 kind : Φ.env.scope.kind = .function
 nm : ∀ (i : Nat) x k, Φ.names[i]? = some (x, k) → match k with
  | none => Φ.env.kindOf x = some .local
  | some c => (Φ.env.kindOf x = some .cell ∨ Φ.env.kindOf x = some .free) ∧ Φ.env.cells.lookup x = some c ∧ (x == ("__classdict__" : Str)) = false
 nd : (Φ.names.map (·.1)).Nodup
 depth : Φ.A.depth + 8 * Φ.lv + 8 < recursionLimit
 units : Φ.A.units + 100 * Φ.lv + 100 < cLine
noncomputable abbrev Loc := List (Option V)
noncomputable def SlotV (k : Option Addr) (m : Str → Option Value) (h : Heap) (x : Str) (X : Value) : Prop := Option.casesOn k (m x = some X) fun c => h.IsCell c (some X)
theorem SlotV.to {k : Option Addr} {m m' : Str → Option Value} {h h' : Heap} {x : Str} {X : Value} (z : SlotV k m h x X) (hm : k = none → m x = some X → m' x = some X) (hc : ∀ c, k = some c → h.IsCell c (some X) → h'.IsCell c (some X)) : SlotV k m' h' x X := by
 cases k with
 | none => exact hm rfl z
 | some c => exact hc c rfl z
noncomputable def LocOk (Φ : Fx) (P : Addr → Obj → Prop) (ρ : List Cell) (h : Heap) (m : Str → Option Value) (loc : Loc) : Prop :=
 ∀ (i : Nat) x k v, Φ.names[i]? = some (x, k) → loc[i]? = some (some v) → ∃ X, SlotV k m h x X ∧ VR P ρ v X
structure SI (W : Wd) (Φ : Fx) (ρ : List Cell) (loc : Loc) (H : List AO) (s : Shared) : Prop where
 m : ∃ m, Fr Φ.g Φ.L s.heap m ∧ LocOk Φ (Φ.P ρ s.heap) ρ s.heap m loc
 cl : ∀ c ∈ Φ.cells, ∃ v, s.heap.IsCell c v
 hp : HInv W.w s.heap (Φ.P ρ s.heap) ρ H
 nd : (Φ.M ρ).Nodup
 gn : ∀ a ∈ Φ.M ρ, Φ.g.get? a = none
 lt : ∀ a ∈ Φ.M ρ, a < s.heap.objs.size
 tb : TInv s.heap
 gens : AllBare s.gens
 up : UpX Φ.base.X Φ.base.F Φ.base.h0 s.heap
structure Stp (Φ : Fx) (ρ ρ' : List Cell) (s s' : Shared) : Prop where
 pre : ∀ (i : Nat) c, ρ[i]? = some c → ρ'[i]? = some c
 keep : ∀ a o, s.heap.get? a = some o → a ∉ Φ.M ρ → s'.heap.get? a = some o ∧ a ∉ Φ.M ρ'
 os : s'.os = s.os
theorem Stp.refl {Φ : Fx} {ρ : List Cell} {s : Shared} : Stp Φ ρ ρ s s := ⟨fun _ _ h => h, fun _ _ h k => ⟨h, k⟩, rfl⟩
theorem Stp.trans {Φ : Fx} {ρ ρ' ρ'' : List Cell} {s s' s'' : Shared} (a : Stp Φ ρ ρ' s s') (b : Stp Φ ρ' ρ'' s' s'') : Stp Φ ρ ρ'' s s'' :=
 ⟨fun i c h => b.pre i c (a.pre i c h), fun x o h k => let z := a.keep x o h k; b.keep x o z.1 z.2, b.os.trans a.os⟩
theorem Stp.mono {Φ : Fx} {ρ ρ' : List Cell} {s s' : Shared} (a : Stp Φ ρ ρ' s s') {v : V} {X : Value} (h : VR (Φ.P ρ s.heap) ρ v X) : VR (Φ.P ρ' s'.heap) ρ' v X :=
 h.mono (fun b o z => a.keep b o z.1 z.2) a.pre
theorem Stp.monos {Φ : Fx} {ρ ρ' : List Cell} {s s' : Shared} (a : Stp Φ ρ ρ' s s') {v : List V} {X : List Value} (h : VRs (Φ.P ρ s.heap) ρ v X) : VRs (Φ.P ρ' s'.heap) ρ' v X :=
 h.mono (fun b o z => a.keep b o z.1 z.2) a.pre
structure Kp (s s' : Shared) : Prop where
 k : ∀ b o, s.heap.get? b = some o → s'.heap.get? b = some o
 sz : s.heap.objs.size ≤ s'.heap.objs.size
 os : s'.os = s.os
 gens : AllBare s.gens → AllBare s'.gens
theorem Kp.refl {s : Shared} : Kp s s := ⟨fun _ _ h => h, Nat.le_refl _, rfl, id⟩
theorem Kp.trans {s s' s'' : Shared} (a : Kp s s') (b : Kp s' s'') : Kp s s'' := ⟨fun x o h => b.k x o (a.k x o h), Nat.le_trans a.sz b.sz, b.os.trans a.os, fun h => b.gens (a.gens h)⟩
theorem Kp.toks {s : Shared} {tk : Nat} : Kp s { s with toks := tk } := ⟨fun _ _ h => h, Nat.le_refl _, rfl, id⟩
theorem Kp.push {s : Shared} {o : Obj} {tk : Nat} : Kp s { s with heap := s.heap.push o, toks := tk } := ⟨fun _ _ h => Heap.get?_push_of_some _ h, by show _ ≤ (s.heap.push o).objs.size; rw [Heap.size_push]; exact Nat.le_succ _, rfl, id⟩
section
variable {W : Wd} {Φ : Fx} {ρ : List Cell} {loc : Loc} {H : List AO} {s s' : Shared}
theorem Kp.pmono (k : Kp s s') {a : Addr} {o : Obj} (h : Φ.P ρ s.heap a o) : Φ.P ρ s'.heap a o := ⟨k.k _ _ h.1, h.2⟩
theorem Kp.stp (k : Kp s s') : Stp Φ ρ ρ s s' := ⟨fun _ _ h => h, fun a o h n => ⟨k.k a o h, n⟩, k.os⟩
theorem SI.mE (S : SI W Φ ρ loc H s) {C : Prop} (k : ∀ m, Fr Φ.g Φ.L s.heap m → LocOk Φ (Φ.P ρ s.heap) ρ s.heap m loc → C) : C := S.m.elim fun m z => k m z.1 z.2
theorem mem_fm {l : List (Str × Option Addr)} {j : Nat} {y : Str} {c : Addr} (h : l[j]? = some (y, some c)) : c ∈ l.filterMap (·.2) := List.mem_filterMap.mpr ⟨_, List.mem_of_getElem? h, rfl⟩
theorem LocOk.to {P P' : Addr → Obj → Prop} {ρ' : List Cell} {h h' : Heap} {m : Str → Option Value} (x : LocOk Φ P ρ h m loc) (hc : ∀ c ∈ Φ.cells, ∀ v, h.IsCell c v → h'.IsCell c v) (hv : ∀ v X, VR P ρ v X → VR P' ρ' v X) : LocOk Φ P' ρ' h' m loc := fun i y k v hn hl =>
 (x i y k v hn hl).imp fun X z => ⟨z.1.to (fun _ e => e) fun c e q => hc c (mem_fm (e ▸ hn)) _ q, hv _ _ z.2⟩
theorem LocOk.mono {P P' : Addr → Obj → Prop} {ρ' : List Cell} {h h' : Heap} {m : Str → Option Value} (x : LocOk Φ P ρ h m loc) (hc : ∀ c ∈ Φ.cells, ∀ v, h.IsCell c v → h'.IsCell c v) (hp : ∀ a o, P a o → P' a o) (hr : ∀ (i : Nat) c, ρ[i]? = some c → ρ'[i]? = some c) : LocOk Φ P' ρ' h' m loc := x.to hc fun _ _ z => z.mono hp hr
theorem SI.kept (S : SI W Φ ρ loc H s) (k : Kp s s') : SI W Φ ρ loc H s' where
 m := let ⟨m, F, l⟩ := S.m; ⟨m, F.kept k.k, l.mono (fun _ _ _ h => h.keeps k.k) (fun _ _ h => k.pmono h) fun _ _ h => h⟩
 cl := fun c hc => let ⟨v, h⟩ := S.cl c hc; ⟨v, h.keeps k.k⟩
 hp := ⟨S.hp.1, fun i c o h1 h2 => (S.hp.2 i c o h1 h2).mono (fun a _ o h => k.k a o h) (fun _ _ h => k.pmono h) fun _ _ h => h⟩
 nd := S.nd
 gn := S.gn
 lt := fun a ha => Nat.lt_of_lt_of_le (S.lt a ha) k.sz
 tb := S.tb.mono k.k
 gens := k.gens S.gens
 up := S.up.keep fun b o _ => k.k b o
theorem SI.fresh (S : SI W Φ ρ loc H s) : s.heap.objs.size ∉ Φ.M ρ := fun h => absurd (S.lt _ h) (Nat.lt_irrefl _)
end
noncomputable abbrev EF := Loc → List AO → Option (V × List AO)
noncomputable def SE.K (W : Wd) (Φ : Fx) (ρ : List Cell) (loc : Loc) (s : Shared) (Q : Value → Shared → Prop) (v : V) (H' : List AO) : Prop := ∀ X s' ρ', Stp Φ ρ ρ' s s' → SI W Φ ρ' loc H' s' → VR (Φ.P ρ' s'.heap) ρ' v X → Q X s'
noncomputable def SE (W : Wd) (Φ : Fx) (e : Expr) (f : EF) : Prop := ∀ loc H v H' ρ s (Q : Value → Shared → Prop) (E : Value → Shared → Prop), f loc H = some (v, H') → SI W Φ ρ loc H s →
 SE.K W Φ ρ loc s Q v H' → wpAny W.M Φ.A (eval e Φ.env) Q E s
noncomputable abbrev TF := Loc → List AO → Option (Bool × List AO)
noncomputable def SB.K (W : Wd) (Φ : Fx) (ρ : List Cell) (loc : Loc) (s : Shared) (Q : Bool → Shared → Prop) (b : Bool) (H' : List AO) : Prop := ∀ s' ρ', Stp Φ ρ ρ' s s' → SI W Φ ρ' loc H' s' → Q b s'
noncomputable def SB (W : Wd) (Φ : Fx) (e : Expr) (f : TF) : Prop := ∀ loc H b H' ρ s (Q : Bool → Shared → Prop) (E : Value → Shared → Prop), f loc H = some (b, H') → SI W Φ ρ loc H s →
 SB.K W Φ ρ loc s Q b H' → wpAny W.M Φ.A (isTrue e Φ.env (eval e Φ.env)) Q E s
inductive FL where | next | brk | cont | ret (v : V)
noncomputable abbrev SF := Loc → List AO → Option (FL × Loc × List AO)
noncomputable def FR (P : Addr → Obj → Prop) (ρ : List Cell) : FL → Flow → Prop
 | .next, .next => True
 | .brk, .brk => True
 | .cont, .cont => True
 | .ret v, .ret X => VR P ρ v X
 | _, _ => False
noncomputable def SX.K (W : Wd) (Φ : Fx) (ρ : List Cell) (s : Shared) (Q : Flow → Shared → Prop) (r : FL) (loc' : Loc) (H' : List AO) : Prop := ∀ X s' ρ', Stp Φ ρ ρ' s s' → SI W Φ ρ' loc' H' s' → FR (Φ.P ρ' s'.heap) ρ' r X → Q X s'
@[elab_as_elim] theorem FR.on {P : Addr → Obj → Prop} {ρ : List Cell} {C : FL → Flow → Prop} {fl : FL} {Y : Flow} (h : FR P ρ fl Y) (h1 : C .next .next) (h2 : C .brk .brk) (h3 : C .cont .cont) (h4 : ∀ v X, VR P ρ v X → C (.ret v) (.ret X)) : C fl Y := by
 cases fl <;> cases Y <;> first | exact h.elim | exact h1 | exact h2 | exact h3 | exact h4 _ _ h
noncomputable def SX (W : Wd) (Φ : Fx) (t : Sem Flow) (f : SF) : Prop := ∀ loc H r loc' H' ρ s (Q : Flow → Shared → Prop) (E : Value → Shared → Prop), f loc H = some (r, loc', H') → SI W Φ ρ loc H s →
 SX.K W Φ ρ s Q r loc' H' → wpAny W.M Φ.A t Q E s
section
variable {W : Wd} {Φ : Fx} {ρ : List Cell} {loc : Loc} {s : Shared}
theorem eq2 {α β : Type} {a a' : α} {b b' : β} {C : α → β → Prop} (k : C a' b') (e : (a, b) = (a', b')) : C a b := by cases e; exact k
theorem SE.K.of {Q v a h H'} (k : SE.K W Φ ρ loc s Q v H') (e : (a, h) = (v, H')) : SE.K W Φ ρ loc s Q a h := eq2 k e
theorem SB.K.of {Q v a h H'} (k : SB.K W Φ ρ loc s Q v H') (e : (a, h) = (v, H')) : SB.K W Φ ρ loc s Q a h := eq2 k e
theorem SX.K.of {Q r l' a l h H'} (k : SX.K W Φ ρ s Q r l' H') (e : (a, l, h) = (r, l', H')) : SX.K W Φ ρ s Q a l h := by cases e; exact k
theorem SE.K.ofS {Q v a h H'} (k : SE.K W Φ ρ loc s Q v H') (e : some (a, h) = some (v, H')) : SE.K W Φ ρ loc s Q a h := k.of (Option.some.inj e)
theorem SX.K.ofS {Q r l' a l h H'} (k : SX.K W Φ ρ s Q r l' H') (e : some (a, l, h) = some (r, l', H')) : SX.K W Φ ρ s Q a l h := k.of (Option.some.inj e)
theorem se_lit {e : Expr} {v : V} (h : ∀ (Q E : Value → Shared → Prop) s, (∀ X tk, (∀ P ρ, VR P ρ v X) → Q X { s with toks := tk }) → wpAny W.M Φ.A (eval e Φ.env) Q E s) : SE W Φ e (fun _ H => some (v, H)) := fun loc H v H' ρ s Q E hf S k =>
 h _ _ _ fun X tk z => k.ofS hf _ _ ρ Kp.toks.stp (S.kept Kp.toks) (z _ _)
theorem se_int {i : Int} {k : Nat} {pos : Pos} : SE W Φ (.Constant (.int i) k pos) (fun _ H => some (.int i, H)) := se_lit fun _ _ _ k => wpAny_Constant_int (k _ _ fun _ _ => .int _ _)
theorem se_none {k : Nat} {pos : Pos} : SE W Φ (.Constant .none k pos) (fun _ H => some (.none, H)) := se_lit fun _ _ s k => wpAny_Constant_none (k _ s.toks fun _ _ => .none)
theorem se_bool {b : Bool} {k : Nat} {pos : Pos} : SE W Φ (.Constant (.bool b) k pos) (fun _ H => some (.bool b, H)) := se_lit fun _ _ s k => wpAny_Constant_bool (k _ s.toks fun _ _ => .bool _)
theorem se_str {x : Str} {k : Nat} {pos : Pos} : SE W Φ (.Constant (.str x) k pos) (fun _ H => some (.str x, H)) := se_lit fun _ _ _ k => wpAny_Constant_str (k _ _ fun _ _ => .str _ _)
end
end
end
section
section
theorem TInv.two {h h' : Heap} (x : TInv h) (hk : ∀ q ∈ TBs, ∀ a, a = q.1 ∨ a = q.2 → ∀ o, h.get? a = some o → h'.get? a = some o) : TInv h' := fun q hq =>
 have k1 := hk q hq q.1 (.inl rfl)
 have k2 := hk q hq q.2 (.inr rfl)
 (x q hq).imp fun _ z => ⟨⟨z.1.1.imp fun _ => .imp fun _ y => ⟨k1 _ y.1, y.2⟩, k2 _ z.1.2⟩, z.2.imp fun _ => .imp fun _ => .imp fun _ => .imp fun _ => .imp fun _ => .imp fun _ => .imp fun _ => .imp fun _ => .imp fun _ => .imp fun _ y => ⟨k1 _ y.1, y.2.1, y.2.2.1, y.2.2.2.1, y.2.2.2.2.1, y.2.2.2.2.2.1, y.2.2.2.2.2.2.1, k2 _ y.2.2.2.2.2.2.2.1, y.2.2.2.2.2.2.2.2⟩⟩
theorem TInv.at {h : Heap} (x : TInv h) {q : Addr × Addr} (hq : q ∈ TBs) : (∃ o vs, h.get? q.1 = some o ∧ o.data = .fields vs) ∧ ∃ o vs, h.get? q.2 = some o ∧ o.data = .fields vs :=
 (x q hq).elim fun _ z => ⟨z.1.1.imp fun _ => .imp fun _ y => ⟨y.1, y.2.2.1⟩, _, _, z.1.2, rfl⟩
theorem TInv.change {h h' : Heap} {a : Addr} (x : TInv h) (hk : ∀ b o, b ≠ a → h.get? b = some o → h'.get? b = some o) (ha : ∀ o, h.get? a = some o → ∀ vs, o.data ≠ .fields vs) : TInv h' := x.two fun q hq b hb o e => hk b o (fun e2 => by
 have no : ∀ c, c = a → (∃ o vs, h.get? c = some o ∧ o.data = .fields vs) → False := fun c e h => h.elim fun o h => h.elim fun vs z => ha o (e ▸ z.1) vs z.2
 have z := x.at hq
 exact hb.elim (fun e => no _ (e ▸ e2) z.1) fun e => no _ (e ▸ e2) z.2) e
theorem filterMap_inj : ∀ {l : List (Str × Option Addr)} {c : Addr} {i j : Nat} {x y : Str}, (l.filterMap (·.2)).Nodup → l[i]? = some (x, some c) → l[j]? = some (y, some c) → i = j
 | [], _, _, _, _, _, _, h, _ => by simp at h
 | (n, o) :: r, c, i, j, x, y, hd, hi, hj => by
  have hr : (r.filterMap (·.2)).Nodup := by
   cases o with
   | none => simpa using hd
   | some b => exact (List.nodup_cons.mp (by simpa using hd)).2
  have no : o = some c → c ∉ r.filterMap (·.2) := fun e => by
   subst e
   exact (List.nodup_cons.mp (by simpa using hd)).1
  cases i with
  | zero =>
   cases j with
   | zero => rfl
   | succ j =>
    have e := (Prod.mk.inj (Option.some.inj hi)).2
    exact absurd (mem_fm (l := r) (j := j) hj) (no e)
  | succ i =>
   cases j with
   | zero =>
    have e := (Prod.mk.inj (Option.some.inj hj)).2
    exact absurd (mem_fm (l := r) (j := i) hi) (no e)
   | succ j => exact congrArg (· + 1) (filterMap_inj (l := r) (i := i) (j := j) hr hi hj)
section
variable {W : Wd} {Φ : Fx} {ρ : List Cell} {loc : Loc} {H : List AO} {s : Shared}
theorem names_uniq (O : Φ.Ok W) {i j : Nat} {x : Str} {k k' : Option Addr} (hi : Φ.names[i]? = some (x, k)) (hj : Φ.names[j]? = some (x, k')) : i = j := by
 have hi' : (Φ.names.map (·.1))[i]? = some x := by rw [List.getElem?_map, hi]; rfl
 have hj' : (Φ.names.map (·.1))[j]? = some x := by rw [List.getElem?_map, hj]; rfl
 obtain ⟨li, ei⟩ := List.getElem?_eq_some_iff.mp hi'
 obtain ⟨lj, ej⟩ := List.getElem?_eq_some_iff.mp hj'
 exact (List.getElem_inj (h₀ := li) (h₁ := lj) O.nd).mp (ei.trans ej.symm)
theorem mem_T_tb {c : Addr} (h : c ∈ TB) : c ∈ Φ.T := List.mem_append_left _ h
theorem mem_T_X {c : Addr} (h : c ∈ Φ.base.X) : c ∈ Φ.T := List.mem_append_right _ h
theorem SI.nd3 (S : SI W Φ ρ loc H s) : Φ.L ∉ Φ.cells ++ (mutA ρ ++ Φ.T) ∧ Φ.cells.Nodup ∧ (mutA ρ ++ Φ.T).Nodup ∧ ∀ a ∈ Φ.cells, ∀ b ∈ mutA ρ ++ Φ.T, a ≠ b :=
 have h := List.nodup_cons.mp S.nd; ⟨h.1, List.nodup_append.mp h.2⟩
theorem SI.p1 (S : SI W Φ ρ loc H s) : Φ.L ∉ Φ.cells := fun h => S.nd3.1 (List.mem_append_left _ h)
theorem SI.p2 (S : SI W Φ ρ loc H s) : Φ.L ∉ mutA ρ := fun h => S.nd3.1 (List.mem_append_right _ (List.mem_append_left _ h))
theorem SI.p3 (S : SI W Φ ρ loc H s) : Φ.L ∉ Φ.T := fun h => S.nd3.1 (List.mem_append_right _ (List.mem_append_right _ h))
theorem SI.p4 (S : SI W Φ ρ loc H s) (a : Addr) (ha : a ∈ Φ.cells) : a ∉ mutA ρ ∧ a ∉ Φ.T := ⟨fun hb => S.nd3.2.2.2 a ha a (List.mem_append_left _ hb) rfl, fun hb => S.nd3.2.2.2 a ha a (List.mem_append_right _ hb) rfl⟩
theorem SI.p5 (S : SI W Φ ρ loc H s) (a : Addr) (ha : a ∈ mutA ρ) : a ∉ Φ.T := fun hb => (List.nodup_append.mp S.nd3.2.2.1).2.2 a ha a hb rfl
theorem SI.p6 (S : SI W Φ ρ loc H s) : Φ.cells.Nodup := S.nd3.2.1
theorem SI.p7 (S : SI W Φ ρ loc H s) : (mutA ρ).Nodup := (List.nodup_append.mp S.nd3.2.2.1).1
theorem SI.ndT (S : SI W Φ ρ loc H s) : Φ.T.Nodup := (List.nodup_append.mp S.nd3.2.2.1).2.1
theorem mem_M_cases {a : Addr} (h : a ∈ Φ.M ρ) {C : Prop} (h1 : a = Φ.L → C) (h2 : a ∈ Φ.cells → C) (h3 : a ∈ mutA ρ → C) (h4 : a ∈ Φ.T → C) : C :=
 (List.mem_cons.mp h).elim h1 fun h => (List.mem_append.mp h).elim h2 fun h => (List.mem_append.mp h).elim h3 h4
theorem mem_M_L : Φ.L ∈ Φ.M ρ := .head _
theorem mem_M_cell {c : Addr} (h : c ∈ Φ.cells) : c ∈ Φ.M ρ := .tail _ (List.mem_append_left _ h)
theorem mem_M_mut {c : Addr} (h : c ∈ mutA ρ) : c ∈ Φ.M ρ := .tail _ (List.mem_append_right _ (List.mem_append_left _ h))
theorem mem_M_tb {c : Addr} (h : c ∈ Φ.T) : c ∈ Φ.M ρ := .tail _ (List.mem_append_right _ (List.mem_append_right _ h))
theorem ns_nofields {h : Heap} {a : Addr} {m : Str → Option Value} (n : h.Ns a m) : ∀ o, h.get? a = some o → ∀ vs, o.data ≠ .fields vs := by
 obtain ⟨o', es, ep, ho, hd, _⟩ := n
 intro o e vs q
 rw [ho] at e; cases e; rw [hd] at q; cases q
theorem cell_nofields {h : Heap} {a : Addr} {v : Option Value} (n : h.IsCell a v) : ∀ o, h.get? a = some o → ∀ vs, o.data ≠ .fields vs := by
 obtain ⟨o', ho, hd⟩ := n
 intro o e vs q
 rw [ho] at e; cases e; rw [hd] at q; cases q
theorem SI.mono_but {h' : Heap} {a : Addr} (ha : a ∈ Φ.M ρ) (hk : ∀ b o, b ≠ a → s.heap.get? b = some o → h'.get? b = some o) {b : Addr} {o : Obj} (x : Φ.P ρ s.heap b o) : Φ.P ρ h' b o :=
 ⟨hk b o (fun e => x.2 (e ▸ ha)) x.1, x.2⟩
theorem stp_but {a : Addr} {h' : Heap} {tk : Nat} (ha : a ∈ Φ.M ρ) (hk : ∀ b o, b ≠ a → s.heap.get? b = some o → h'.get? b = some o) (_hz : s.heap.objs.size ≤ h'.objs.size) : Stp Φ ρ ρ s { s with heap := h', toks := tk } :=
 ⟨fun _ _ h => h, fun b o h n => ⟨hk b o (fun e => n (e ▸ ha)) h, n⟩, rfl⟩
theorem get_set {i : Nat} {u v : V} (hl : (loc.set i (some v))[i]? = some (some u)) : u = v := by
 rw [List.getElem?_set_self'] at hl
 exact Option.casesOn (motive := fun o => Option.map (fun _ => some v) o = some (some u) → u = v) loc[i]? nofun (fun _ e => (Option.some.inj (Option.some.inj e)).symm) hl
theorem LocOk.set (O : Φ.Ok W) {i : Nat} {x : Str} {k : Option Addr} (hn : Φ.names[i]? = some (x, k)) {v : V} {X : Value} {P P' : Addr → Obj → Prop} {h h' : Heap} {m m' : Str → Option Value} (l : LocOk Φ P ρ h m loc)
  (hp : ∀ a o, P a o → P' a o) (hv : VR P ρ v X) (hk : SlotV k m' h' x X) (hm : ∀ y, y ≠ x → ∀ X, m y = some X → m' y = some X) (hc : ∀ (j : Nat) y c X, Φ.names[j]? = some (y, some c) → j ≠ i → h.IsCell c X → h'.IsCell c X) : LocOk Φ P' ρ h' m' (loc.set i (some v)) := fun j y k' u hj hl => by
 by_cases e : j = i
 ·subst e
  have e1 := Option.some.inj (hn.symm.trans hj)
  have e2 := get_set hl
  subst e2
  cases e1
  exact ⟨X, hk, hv.mono hp fun _ _ z => z⟩
 ·rw [List.getElem?_set_ne (Ne.symm e)] at hl
  exact (l j y k' u hj hl).imp fun X' z => ⟨z.1.to (fun _ => hm y (fun q => e (names_uniq O (q ▸ hj) hn)) _) fun c q => hc j y c _ (q ▸ hj) e, z.2.mono hp fun _ _ z => z⟩
theorem wp_store (O : Φ.Ok W) {i : Nat} {x : Str} {k : Option Addr} (hn : Φ.names[i]? = some (x, k)) {v : V} {X : Value} {A : Around} {Q : Unit → Shared → Prop} {E : Value → Shared → Prop} (S : SI W Φ ρ loc H s) (hv : VR (Φ.P ρ s.heap) ρ v X)
  (hfree : k ≠ none → Φ.env.kindOf x = some .cell)
  (h : ∀ s', Stp Φ ρ ρ s s' → SI W Φ ρ (loc.set i (some v)) H s' → Q () s') : wpAny W.M A (storeName Φ.env x X) Q E s := by
 refine S.mE fun m F Lk => ?_
 have hnm := O.nm i x k hn
 cases k with
 | none =>
  refine wpAny_storeName_local hnm (O.loc ▸ F.ns) (O.loc.symm ▸ fun h' hns hs => ?_) (by rw [O.kind]; rfl)
  have hk := hs.extBut
  have pm : ∀ a o, Φ.P ρ s.heap a o → Φ.P ρ h' a o := fun _ _ => SI.mono_but mem_M_L hk
  refine h _ (stp_but mem_M_L hk (Nat.le_of_eq hs.1.symm)) ⟨⟨_, F.set hns hs, Lk.set O hn pm hv (show (if x = x then some X else m x) = some X from if_pos rfl) (fun y e X e1 => (if_neg e).trans e1) fun j y c X hj _ z => z.sameBut hs fun q => S.p1 (q ▸ mem_fm hj)⟩, fun c hc => (S.cl c hc).imp fun v z => z.sameBut hs fun q => S.p1 (q ▸ hc), ⟨S.hp.1, fun j c o h1 h2 => ?_⟩, S.nd, S.gn, fun a ha => by rw [hs.1]; exact S.lt a ha, S.tb.change hk (ns_nofields F.ns), S.gens, S.up.keep fun b o hb e => hk b o (fun q => S.p3 (q ▸ mem_T_X hb)) e⟩
  exact (S.hp.2 j c o h1 h2).mono (fun a ha o' ho' => hk a o' (fun q => S.p2 (q ▸ mem_mutA h1 ha)) ho') pm fun _ _ z => z
 | some c =>
  have hc : c ∈ Φ.cells := mem_fm hn
  refine (S.cl c hc).elim fun v₀ hv₀ => ?_
  refine wpAny_storeName_cell O.kind (hfree nofun) hnm.2.1 hv₀ fun h' hns hs => ?_
  have hk := hs.extBut
  have hcM : c ∈ Φ.M ρ := mem_M_cell hc
  have pm : ∀ a o, Φ.P ρ s.heap a o → Φ.P ρ h' a o := fun _ _ => SI.mono_but hcM hk
  refine h _ ⟨fun _ _ h => h, fun b o h n => ⟨hk b o (fun e => n (e ▸ hcM)) h, n⟩, rfl⟩ ⟨⟨m, F.change hs (fun q => S.p1 (q ▸ hc)) (S.gn c hcM), Lk.set O hn pm hv hns (fun _ _ _ e => e) fun j y c' X hj ne z => z.sameBut hs fun q => ne (filterMap_inj S.p6 hj (q ▸ hn))⟩, fun c' hc' => ?_, ⟨S.hp.1, fun j c' o h1 h2 => ?_⟩, S.nd, S.gn, fun a ha => by show a < h'.objs.size; rw [hs.1]; exact S.lt a ha, S.tb.change hk (cell_nofields hv₀), S.gens, S.up.keep fun b o hb e => hk b o (fun q => (S.p4 c hc).2 (q ▸ mem_T_X hb)) e⟩
  ·by_cases q : c' = c
   ·exact ⟨_, q ▸ hns⟩
   ·exact (S.cl c' hc').imp fun v' z => z.sameBut hs q
  ·exact (S.hp.2 j c' o h1 h2).mono (fun a ha o' ho' => hk a o' (fun q => (S.p4 c hc).1 (q ▸ mem_mutA h1 ha)) ho') pm fun _ _ z => z
end
end
end
section
section
section
variable {W : Wd} {Φ : Fx} {ρ : List Cell} {loc : Loc} {H : List AO} {s s' : Shared}
theorem M_append (c : Cell) (a : Addr) : a ∈ Φ.M (ρ ++ [c]) ↔ a ∈ Φ.M ρ ∨ a ∈ cellAs c := by
 have e : mutA (ρ ++ [c]) = mutA ρ ++ cellAs c := by rw [mutA_append]; exact congrArg (mutA ρ ++ ·) (List.append_nil _)
 exact ⟨fun h => mem_M_cases h (fun q => .inl (q ▸ mem_M_L)) (fun q => .inl (mem_M_cell q)) (fun q => (List.mem_append.mp (e ▸ q)).elim (fun q => .inl (mem_M_mut q)) .inr) fun q => .inl (mem_M_tb q),
  fun h => h.elim (fun h => mem_M_cases h (fun q => q ▸ mem_M_L) mem_M_cell (fun q => mem_M_mut (e ▸ List.mem_append_left _ q)) mem_M_tb) fun q => mem_M_mut (e ▸ List.mem_append_right _ q)⟩
theorem SI.add (S : SI W Φ ρ loc H s) (k : Kp s s') {c : Cell} {o : AO} (hf : ∀ a ∈ cellAs c, s.heap.objs.size ≤ a ∧ a < s'.heap.objs.size) (hd : (cellAs c).Nodup)
  (ho : ∀ P : Addr → Obj → Prop, (∀ a x, Φ.P ρ s.heap a x → P a x) → OR W.w s'.heap P (ρ ++ [c]) c o) :
  SI W Φ (ρ ++ [c]) loc (H ++ [o]) s' ∧ Stp Φ ρ (ρ ++ [c]) s s' := by
 have old : ∀ a x, s.heap.get? a = some x → a ∉ cellAs c := fun a x e q => absurd (Heap.lt_size e) (Nat.not_lt.mpr (hf a q).1)
 have pm : ∀ a x, Φ.P ρ s.heap a x → Φ.P (ρ ++ [c]) s'.heap a x := fun a x z => ⟨k.k a x z.1, fun q => ((M_append c a).mp q).elim z.2 (old a x z.1)⟩
 have pr : ∀ (i : Nat) d, ρ[i]? = some d → (ρ ++ [c])[i]? = some d := fun i d e => (List.getElem?_append_left (List.getElem?_eq_some_iff.mp e).1).trans e
 refine ⟨⟨S.mE fun m F l => ⟨m, F.kept k.k, l.mono (fun _ _ _ h => h.keeps k.k) pm pr⟩, fun d hd => (S.cl d hd).imp fun _ h => h.keeps k.k, ⟨by rw [List.length_append, List.length_append, S.hp.1]; rfl, fun i d x h1 h2 => ?_⟩, ?_, fun a ha => ?_, fun a ha => ?_, S.tb.mono k.k, k.gens S.gens, S.up.keep fun b o _ => k.k b o⟩, ⟨pr, fun a x e n => ⟨k.k a x e, fun q => ((M_append c a).mp q).elim n (old a x e)⟩, k.os⟩⟩
 ·by_cases hl : i < ρ.length
  ·exact (S.hp.2 i d x ((List.getElem?_append_left hl).symm.trans h1) ((List.getElem?_append_left (S.hp.1 ▸ hl)).symm.trans h2)).mono (fun a _ y e => k.k a y e) pm pr
  ·have hi : i = ρ.length := Nat.le_antisymm (Nat.le_of_lt_succ (by have := (List.getElem?_eq_some_iff.mp h1).1; rwa [List.length_append] at this)) (Nat.not_lt.mp hl)
   subst hi
   have e1 : c = d := Option.some.inj (List.getElem?_concat_length.symm.trans h1)
   have e2 : o = x := Option.some.inj (List.getElem?_concat_length.symm.trans (S.hp.1 ▸ h2))
   subst e1 e2
   exact ho _ pm
 ·have dis : ∀ a ∈ cellAs c, a ∉ Φ.M ρ := fun a ha hm => absurd (S.lt a hm) (Nat.not_lt.mpr (hf a ha).1)
  have e : mutA (ρ ++ [c]) = mutA ρ ++ cellAs c := by rw [mutA_append]; exact congrArg (mutA ρ ++ ·) (List.append_nil _)
  have perm : (Φ.M (ρ ++ [c])).Perm (cellAs c ++ Φ.M ρ) := by
   unfold Fx.M
   rw [e, List.append_assoc, ← List.append_assoc Φ.cells, ← List.cons_append, ← List.append_assoc Φ.cells, ← List.cons_append]
   exact List.perm_append_comm_assoc _ _ _
  exact perm.nodup_iff.mpr (List.nodup_append.mpr ⟨hd, S.nd, fun a ha b hb e => dis a ha (e ▸ hb)⟩)
 ·refine ((M_append c a).mp ha).elim (S.gn a) fun h => ?_
  cases q : Φ.g.get? a with
  | none => rfl
  | some x => exact S.mE fun m F _ => absurd h (old a x (F.keep a x q))
 ·exact ((M_append c a).mp ha).elim (fun h => Nat.lt_of_lt_of_le (S.lt a h) k.sz) fun h => (hf a h).2
theorem SI.got (S : SI W Φ ρ loc H s) {o : Obj} (hf : o.isFreed = false) : Φ.P ρ (s.heap.push o) s.heap.objs.size o := ⟨Heap.get?_push_size _ hf, S.fresh⟩
theorem join_some {α : Type} {o : Option (Option α)} {v : α} (h : o.join = some v) : o = some (some v) := by
 cases o with
 | none => cases h
 | some x => exact congrArg some h
theorem wp_load (O : Φ.Ok W) (i : Nat) {x : Str} {k : Option Addr} {A : Around} {v : V} {Q : Value → Shared → Prop} {E : Value → Shared → Prop} (hn : Φ.names[i]? = some (x, k)) (hl : loc[i]? = some (some v)) (S : SI W Φ ρ loc H s) (kk : ∀ X, VR (Φ.P ρ s.heap) ρ v X → Q X s) : wpAny W.M A (loadName Φ.env x) Q E s := S.mE fun m F l => (l i x k v hn hl).elim fun X e => by
 have hnm := O.nm i x k hn
 cases k with
 | none => exact wpAny_loadName_local O.kind hnm (O.loc ▸ F.ns) e.1 (kk X e.2)
 | some c => exact hnm.1.elim (fun q => wpAny_loadName_cell O.kind q hnm.2.1 e.1 (kk X e.2)) fun q => wpAny_loadName_free O.kind q hnm.2.1 e.1 (kk X e.2) hnm.2.2
theorem raw_name (O : Φ.Ok W) (i : Nat) {x : Str} {k : Option Addr} {pos : Pos} {A : Around} {v : V} {Q : Value → Shared → Prop} {E : Value → Shared → Prop} (hn : Φ.names[i]? = some (x, k)) (hd : (x == ("__debug__" : Str)) = false) (hl : loc[i]? = some (some v)) (S : SI W Φ ρ loc H s) (kk : ∀ X, VR (Φ.P ρ s.heap) ρ v X → Q X s) : wpAny W.M A (eval (.Name x pos) Φ.env) Q E s := wpAny_Name (wp_load O i hn hl S kk) hd
theorem se_name (O : Φ.Ok W) (i : Nat) {x : Str} {k : Option Addr} {pos : Pos} (hn : Φ.names[i]? = some (x, k)) (hd : (x == ("__debug__" : Str)) = false) : SE W Φ (.Name x pos) (fun loc H => loc[i]?.join.map (·, H)) := fun loc H v H' ρ s Q E hf S kk =>
 omp hf fun u hl q => raw_name O i hn hd (join_some hl) S fun X r => kk.of q X s ρ .refl S r
noncomputable abbrev LF := Loc → List AO → Option (List V × List AO)
noncomputable def SL.K (W : Wd) (Φ : Fx) (ρ : List Cell) (loc : Loc) (s : Shared) (Q : List Value → Shared → Prop) (vs : List V) (H' : List AO) : Prop := ∀ Xs s' ρ', Stp Φ ρ ρ' s s' → SI W Φ ρ' loc H' s' → VRs (Φ.P ρ' s'.heap) ρ' vs Xs → Q Xs s'
noncomputable def SL (W : Wd) (Φ : Fx) (pos : Pos) (es : List Expr) (f : LF) : Prop := ∀ loc H vs H' ρ s (Q : List Value → Shared → Prop) (E : Value → Shared → Prop), f loc H = some (vs, H') → SI W Φ ρ loc H s →
 SL.K W Φ ρ loc s Q vs H' → wpAny W.M Φ.A (spliced (backTo pos (starEach es Φ.env))) Q E s
noncomputable def consF (f : EF) (g : LF) : LF := fun loc H => (f loc H).bind fun p => (g loc p.2).map fun q => (p.1 :: q.1, q.2)
theorem SL.K.of {Q v a h H'} (k : SL.K W Φ ρ loc s Q v H') (e : (a, h) = (v, H')) : SL.K W Φ ρ loc s Q a h := eq2 k e
theorem sl_nil {pos : Pos} : SL W Φ pos [] (fun _ H => some ([], H)) := fun loc H vs H' ρ s Q E hf S k => wpAny_pure (k.of (Option.some.inj hf) _ _ ρ .refl S .nil)
theorem sl_cons {pos : Pos} {e : Expr} {es : List Expr} {f : EF} {g : LF} (he : SE W Φ e f) (hs : SL W Φ pos es g) (h : starEach (e :: es) Φ.env = (false, eval e Φ.env) :: starEach es Φ.env := by rfl) : SL W Φ pos (e :: es) (consF f g) := fun loc H vs H' ρ s Q E hf S k => obp2 hf fun v H1 e1 hf => omp2 hf fun ws H2 e2 hf => wpAny_items_cons (he _ _ _ _ _ _ _ _ e1 S fun X s1 ρ1 t1 S1 v1 => hs _ _ _ _ _ _ _ _ e2 S1 fun Xs s2 ρ2 t2 S2 v2 => k.of hf _ _ _ (t1.trans t2) S2 (.cons (t2.mono v1) v2)) h
theorem le_size {n : Nat} (h : n ≤ 100000) : n ≤ sizeLine := Nat.le_trans h (by rw [sizeLine_eq]; decide)
theorem le_size3 {n : Nat} (h : n ≤ 1000) : n ≤ sizeLine := le_size (Nat.le_trans h (by decide))
theorem size_ok {vs : List V} {Xs : List Value} {P : Addr → Obj → Prop} (hz : vs.length ≤ 1000) (v : VRs P ρ vs Xs) : Xs.length ≤ sizeLine := v.length ▸ le_size3 hz
noncomputable def tupF (g : LF) : EF := fun loc H => (g loc H).bind fun p => if p.1.length ≤ 1000 then some (.tup p.1, p.2) else none
theorem se_tuple {es : List Expr} {k : Nat} {pos : Pos} {g : LF} (hs : SL W Φ pos es g) : SE W Φ (.Tuple es k pos) (tupF g) := fun loc H v H' ρ s Q E hf S kk => obp2 hf fun vs H1 e1 hf => ifs hf fun hz q => wpAny_Tuple (hs _ _ _ _ _ _ _ _ e1 S fun Xs s1 ρ1 t1 S1 v1 => ⟨size_ok hz v1, have k1 := Kp.push (tk := s1.toks); kk.of q _ _ ρ1 (t1.trans k1.stp) (S1.kept k1) (.tup (S1.got rfl) (k1.stp.monos v1))⟩)
noncomputable def lstF (g : LF) : EF := fun loc H => (g loc H).bind fun p => if p.1.length ≤ 1000 then some (.lst p.1, p.2) else none
theorem se_list {es : List Expr} {pos : Pos} {g : LF} (hs : SL W Φ pos es g) : SE W Φ (.List es pos) (lstF g) := fun loc H v H' ρ s Q E hf S kk => obp2 hf fun vs H1 e1 hf => ifs hf fun hz q => wpAny_List (hs _ _ _ _ _ _ _ _ e1 S fun Xs s1 ρ1 t1 S1 v1 => ⟨size_ok hz v1, have k1 := Kp.push (tk := s1.toks); kk.of q _ _ ρ1 (t1.trans k1.stp) (S1.kept k1) (.lst (S1.got rfl) (k1.stp.monos v1))⟩)
theorem cell1 {n m : Nat} (h : n < m) : ∀ a ∈ cellAs (n, none), n ≤ a ∧ a < m := fun a ha => by
 cases List.mem_singleton.mp ha
 exact ⟨Nat.le_refl _, h⟩
theorem cell1_nd {n : Nat} : (cellAs (n, none)).Nodup := List.nodup_cons.mpr ⟨List.not_mem_nil, .nil⟩
theorem SI.at_end {c : Cell} (S : SI W Φ ρ loc H s) : (ρ ++ [c])[H.length]? = some c := S.hp.1 ▸ List.getElem?_concat_length
noncomputable def refF (g : LF) : EF := fun loc H => (g loc H).bind fun p => if p.1.length ≤ 1000 then some (.ref p.2.length, p.2 ++ [.list p.1]) else none
theorem se_list_ref {es : List Expr} {pos : Pos} {g : LF} (hs : SL W Φ pos es g) : SE W Φ (.List es pos) (refF g) := fun loc H v H' ρ s Q E hf S kk => by
 refine obp2 hf fun vs H1 e1 hf => ifs hf fun hz q => ?_
 refine wpAny_List (hs _ _ _ _ _ _ _ _ e1 S fun Xs s1 ρ1 t1 S1 v1 => ⟨size_ok hz v1, ?_⟩)
 have z := S1.add (o := .list vs) (c := (s1.heap.objs.size, none)) (Kp.push (tk := s1.toks)) (cell1 (by show _ < (s1.heap.push _).objs.size; rw [Heap.size_push]; exact Nat.lt_succ_self _)) cell1_nd
  fun P hP => ⟨rfl, Xs, 0, Heap.get?_push_size _ rfl, v1.mono hP fun i c e => (List.getElem?_append_left (List.getElem?_eq_some_iff.mp e).1).trans e⟩
 exact kk.of q _ _ _ (t1.trans z.2) z.1 (.ref (c := (s1.heap.objs.size, none)) S1.at_end)
end
end
end
section
section
noncomputable def allM {α β : Type} (f : α → Option β) : List α → Option (List β)
 | [] => some []
 | x :: xs => (f x).bind fun y => (allM f xs).map (y :: ·)
noncomputable def listAt {α : Type} (f : List V → Option α) (o : Option AO) : Option α := Option.casesOn o none fun a => AO.casesOn a f fun _ _ _ => none
theorem listAt_is {α : Type} {f : List V → Option α} {o : Option AO} {u : α} {C : Prop} (h : listAt f o = some u) (k : ∀ xs, o = some (.list xs) → f xs = some u → C) : C := by
 cases o with
 | none => cases h
 | some a => cases a with
  | list xs => exact k xs rfl h
  | inst => cases h
noncomputable def toD (H : List AO) : Nat → V → Option PyData
 | 0, _ => none
 | n + 1, v => V.casesOn v (some .none) (fun b => some (.bool b)) (fun i => some (.int i)) (fun x => some (.str x)) (fun xs => (allM (toD H n) xs).map .tuple) (fun xs => (allM (toD H n) xs).map .list)
  (fun i => listAt (fun xs => (allM (toD H n) xs).map .list) H[i]?) (fun _ _ => none) (fun _ => none) (fun _ => none)
section
variable {W : Wd} {Φ : Fx} {ρ : List Cell} {loc : Loc} {H : List AO} {s : Shared}
theorem reads_all {f : V → Option PyData} {P : Addr → Obj → Prop} {h : Heap} (hf : ∀ v X d, VR P ρ v X → f v = some d → ∃ as, Reads h X d as) {vs Xs} (r : VRs P ρ vs Xs) : ∀ {ds}, allM f vs = some ds → ∃ as, ReadsAll h Xs ds as :=
 r.ind (m := fun vs Xs => ∀ {ds}, allM f vs = some ds → ∃ as, ReadsAll h Xs ds as) (fun {_} e => by cases e; exact ⟨_, .nil⟩) fun {_ _ _ _} hv _ ih {_} e => by
  refine obp e fun d e1 e => omp e fun ds e2 q2 => ?_
  subst q2
  exact (hf _ _ _ hv e1).elim fun as r1 => (ih e2).elim fun bs r2 => ⟨_, .cons r1 r2⟩
theorem reads_of {P : Addr → Obj → Prop} {h : Heap} (hp : ∀ a o, P a o → h.get? a = some o) (hh : HInv W.w h P ρ H) (n : Nat) : ∀ {v X d}, VR P ρ v X → toD H n v = some d → ∃ as, Reads h X d as := by
 induction n with
 | zero => exact fun _ e => nomatch e
 | succ n ih =>
  have all := fun {vs Xs} (r : VRs P ρ vs Xs) {ds} => reads_all (f := toD H n) (fun _ _ _ a b => ih a b) r (ds := ds)
  exact fun {v X d} r => VR.casesOn (motive_1 := fun v X _ => toD H (n + 1) v = some d → ∃ as, Reads h X d as) r (fun e => Option.some.inj e ▸ ⟨_, .none⟩) (fun b e => Option.some.inj e ▸ ⟨_, .bool b⟩) (fun i t e => Option.some.inj e ▸ ⟨_, .int i t⟩) (fun x t e => Option.some.inj e ▸ ⟨_, .str x t⟩) (fun _ => nn) (fun _ _ => nn)
   (fun ha hs e => omp e fun ds e1 q => q ▸ (all hs e1).elim fun _ r => ⟨_, .tuple (hp _ _ ha) rfl rfl r⟩) (fun ha hs e => omp e fun ds e1 q => q ▸ (all hs e1).elim fun _ r => ⟨_, .list (hp _ _ ha) rfl rfl r⟩)
   (fun hi e => listAt_is e fun xs hx e => omp e fun ds e1 q => (hh.2 _ _ _ hi hx).2.elim fun vs z => z.elim fun n' z => q ▸ (all z.2 e1).elim fun _ r => ⟨_, .list z.1 rfl rfl r⟩) (fun _ => nn)
theorem Kp.pushO (s : Shared) (o : Obj) : Kp s { s with heap := s.heap.push o } := Kp.push (tk := s.toks)
noncomputable def S2 (W : Wd) (Φ : Fx) (t : Value → Value → Sem Value) (f : List AO → V → V → Option (V × List AO)) : Prop := ∀ loc H a b v H' X Y ρ s (Q : Value → Shared → Prop) (E : Value → Shared → Prop), f H a b = some (v, H') → SI W Φ ρ loc H s →
 VR (Φ.P ρ s.heap) ρ a X → VR (Φ.P ρ s.heap) ρ b Y → SE.K W Φ ρ loc s Q v H' → wpAny W.M Φ.A (t X Y) Q E s
noncomputable def binF (f g : EF) (h : List AO → V → V → Option (V × List AO)) : EF := fun loc H => (f loc H).bind fun p => (g loc p.2).bind fun q => h q.2 p.1 q.1
theorem se_bin {l r : Expr} {op : Operator} {pos : Pos} {f g : EF} {h} (hl : SE W Φ l f) (hr : SE W Φ r g) (ho : S2 W Φ (binaryOp op) h) : SE W Φ (.BinOp l op r pos) (binF f g h) := fun loc H v H' ρ s Q E hf S k => by
 unfold binF at hf
 refine obp2 hf fun a H1 e1 hf => ?_
 refine obp2 hf fun b H2 e2 hf => ?_
 exact wpAny_BinOp (hl _ _ _ _ _ _ _ _ e1 S fun X s1 ρ1 t1 S1 v1 => hr _ _ _ _ _ _ _ _ e2 S1 fun Y s2 ρ2 t2 S2' v2 => ho _ _ _ _ _ _ _ _ _ _ _ _ hf S2' (t2.mono v1) v2 fun Z s3 ρ3 t3 S3 v3 => k _ _ _ ((t1.trans t2).trans t3) S3 v3)
theorem se_cmp {l r : Expr} {op : CmpOp} {pos : Pos} {f g : EF} {h} (hl : SE W Φ l f) (hr : SE W Φ r g) (ho : S2 W Φ (compareOp op) h) (hm : behindInMarks op r = false := by with_unfolding_all rfl) : SE W Φ (.Compare l [op] [r] pos) (binF f g h) := fun loc H v H' ρ s Q E hf S k => by
 unfold binF at hf
 refine obp2 hf fun a H1 e1 hf => ?_
 refine obp2 hf fun b H2 e2 hf => ?_
 exact wpAny_Compare1 (hl _ _ _ _ _ _ _ _ e1 S fun X s1 ρ1 t1 S1 v1 => hr _ _ _ _ _ _ _ _ e2 S1 fun Y s2 ρ2 t2 S2' v2 => ho _ _ _ _ _ _ _ _ _ _ _ _ hf S2' (t2.mono v1) v2 fun Z s3 ρ3 t3 S3 v3 => k _ _ _ ((t1.trans t2).trans t3) S3 v3) hm
noncomputable def pure2 (f : V → V → Option V) : List AO → V → V → Option (V × List AO) := fun H a b => (f a b).map (·, H)
noncomputable def eqG (g : PyData → PyData → Bool) (H : List AO) (a b : V) : Option (V × List AO) := (toD H 8 a).bind fun x => (toD H 8 b).bind fun y => if SeqAt.shaped x && SeqAt.shaped y then some (.bool (g x y), H) else none
noncomputable abbrev eqF := eqG fun x y => x.eqv y
noncomputable abbrev neF := eqG fun x y => !x.eqv y
theorem units64 (O : Φ.Ok W) : Φ.A.units + 64 < cLine := Nat.lt_of_le_of_lt (by omega) O.units
theorem op_eqG {t : Value → Value → Sem Value} {g : PyData → PyData → Bool} (h : ∀ (X Y : Value) x y as bs (Q E : Value → Shared → Prop) s, Reads s.heap X x as → Reads s.heap Y y bs → SeqAt.shaped x = true → SeqAt.shaped y = true → Q (.bool (g x y)) s → wpAny W.M Φ.A (t X Y) Q E s) : S2 W Φ t (eqG g) := fun loc H a b v H' X Y ρ s Q E hf S ha hb k => by
 refine obp hf fun x ex hf => obp hf fun y ey hf => ifs hf fun hz q => ?_
 have hz := Bool.and_eq_true_iff.mp hz
 exact (reads_of (fun _ _ z => z.1) S.hp _ ha ex).elim fun as ra => (reads_of (fun _ _ z => z.1) S.hp _ hb ey).elim fun bs rb => h _ _ _ _ _ _ _ _ _ ra rb hz.1 hz.2 (k.of q _ _ ρ .refl S (.bool _))
theorem op_eq (O : Φ.Ok W) : S2 W Φ (compareOp .Eq) eqF := op_eqG fun _ _ _ _ _ _ _ _ _ ra rb h1 h2 k => eq_dataH ra rb h1 h2 (units64 O) k
theorem op_ne (O : Φ.Ok W) : S2 W Φ (compareOp .NotEq) neF := op_eqG fun _ _ _ _ _ _ _ _ _ ra rb h1 h2 k => ne_dataH ra rb h1 h2 (units64 O) k
noncomputable def P2 (W : Wd) (Φ : Fx) (t : Value → Value → Sem Value) (f : V → V → Option V) : Prop := ∀ loc H a b u X Y ρ s (Q : Value → Shared → Prop) (E : Value → Shared → Prop), f a b = some u → SI W Φ ρ loc H s →
 VR (Φ.P ρ s.heap) ρ a X → VR (Φ.P ρ s.heap) ρ b Y → (∀ Z s', Kp s s' → VR (Φ.P ρ s'.heap) ρ u Z → Q Z s') → wpAny W.M Φ.A (t X Y) Q E s
theorem P2.s2 {t : Value → Value → Sem Value} {f : V → V → Option V} (h : P2 W Φ t f) : S2 W Φ t (pure2 f) := fun loc H a b v H' X Y ρ s Q E hf S ha hb k => omp hf fun u e q => h _ _ _ _ _ _ _ _ _ _ _ e S ha hb fun Z s' k1 z => k.of q _ _ ρ k1.stp (S.kept k1) z
theorem P2.or {t : Value → Value → Sem Value} {f g : V → V → Option V} (h : P2 W Φ t f) (h2 : P2 W Φ t g) : P2 W Φ t fun a b => (f a b).or (g a b) := fun _ _ _ _ _ _ _ _ _ _ _ e S ha hb k =>
 (orp e).elim (fun e => h _ _ _ _ _ _ _ _ _ _ _ e S ha hb k) fun e => h2 _ _ _ _ _ _ _ _ _ _ _ e S ha hb k
noncomputable def V.int? (v : V) : Option Int := V.casesOn v Option.none (fun _ => Option.none) some (fun _ => Option.none) (fun _ => Option.none) (fun _ => Option.none) (fun _ => Option.none) (fun _ _ => Option.none) (fun _ => Option.none) fun _ => Option.none
noncomputable def V.str? (v : V) : Option Str := V.casesOn v Option.none (fun _ => Option.none) (fun _ => Option.none) some (fun _ => Option.none) (fun _ => Option.none) (fun _ => Option.none) (fun _ _ => Option.none) (fun _ => Option.none) fun _ => Option.none
noncomputable def V.lst? (v : V) : Option (List V) := V.casesOn v Option.none (fun _ => Option.none) (fun _ => Option.none) (fun _ => Option.none) (fun _ => Option.none) some (fun _ => Option.none) (fun _ _ => Option.none) (fun _ => Option.none) fun _ => Option.none
noncomputable def V.bool? (v : V) : Option Bool := V.casesOn v Option.none some (fun _ => Option.none) (fun _ => Option.none) (fun _ => Option.none) (fun _ => Option.none) (fun _ => Option.none) (fun _ _ => Option.none) (fun _ => Option.none) fun _ => Option.none
theorem V.int?_is {v : V} {i : Int} (h : v.int? = some i) : v = .int i := V.casesOn (motive_1 := fun v => v.int? = some i → v = .int i) v nn (fun _ => nn) (fun _ e => congrArg _ (Option.some.inj e)) (fun _ => nn) (fun _ => nn) (fun _ => nn) (fun _ => nn) (fun _ _ => nn) (fun _ => nn) (fun _ => nn) h
theorem V.str?_is {v : V} {i : Str} (h : v.str? = some i) : v = .str i := V.casesOn (motive_1 := fun v => v.str? = some i → v = .str i) v nn (fun _ => nn) (fun _ => nn) (fun _ e => congrArg _ (Option.some.inj e)) (fun _ => nn) (fun _ => nn) (fun _ => nn) (fun _ _ => nn) (fun _ => nn) (fun _ => nn) h
theorem V.lst?_is {v : V} {i : List V} (h : v.lst? = some i) : v = .lst i := V.casesOn (motive_1 := fun v => v.lst? = some i → v = .lst i) v nn (fun _ => nn) (fun _ => nn) (fun _ => nn) (fun _ => nn) (fun _ e => congrArg _ (Option.some.inj e)) (fun _ => nn) (fun _ _ => nn) (fun _ => nn) (fun _ => nn) h
theorem V.bool?_is {v : V} {i : Bool} (h : v.bool? = some i) : v = .bool i := V.casesOn (motive_1 := fun v => v.bool? = some i → v = .bool i) v nn (fun _ e => congrArg _ (Option.some.inj e)) (fun _ => nn) (fun _ => nn) (fun _ => nn) (fun _ => nn) (fun _ => nn) (fun _ _ => nn) (fun _ => nn) (fun _ => nn) h
noncomputable def int2 (f : Int → Int → Option V) (a b : V) : Option V := a.int?.bind fun x => b.int?.bind fun y => f x y
noncomputable def str2 (f : Str → Str → Option V) (a b : V) : Option V := a.str?.bind fun x => b.str?.bind fun y => f x y
theorem VR.isInt {P : Addr → Obj → Prop} {ρ : List Cell} {v : V} {X : Value} {i : Int} (h : VR P ρ v X) (e : v.int? = some i) : ∃ t, X = .int i t := by cases V.int?_is e; exact h.inv
theorem VR.isBool {P : Addr → Obj → Prop} {ρ : List Cell} {v : V} {X : Value} {i : Bool} (h : VR P ρ v X) (e : v.bool? = some i) : X = .bool i := by cases V.bool?_is e; exact h.inv
theorem VR.isStr {P : Addr → Obj → Prop} {ρ : List Cell} {v : V} {X : Value} {i : Str} (h : VR P ρ v X) (e : v.str? = some i) : ∃ t, X = .str i t := by cases V.str?_is e; exact h.inv
theorem VR.isLst {P : Addr → Obj → Prop} {ρ : List Cell} {v : V} {X : Value} {i : List V} (h : VR P ρ v X) (e : v.lst? = some i) : ∃ a vs n, X = .ref a ∧ P a (lstO vs n) ∧ VRs P ρ i vs := by cases V.lst?_is e; exact h.inv
noncomputable def oB {α : Type} (o : Option α) (f : α → Bool) : Bool := Option.casesOn o false f
theorem oB_is {α : Type} {o : Option α} {f : α → Bool} {C : Prop} (h : oB o f = true) (k : ∀ x, o = some x → f x = true → C) : C := by
 cases o with
 | none => exact nomatch h
 | some x => exact k x rfl h
noncomputable def one? {α : Type} (l : List α) : Option α := List.casesOn l none fun a l => List.casesOn l (some a) fun _ _ => none
theorem one?_is {α : Type} {l : List α} {a : α} (h : one? l = some a) : l = [a] := List.casesOn (motive := fun l => one? l = some a → l = [a]) l nn (fun x l => List.casesOn (motive := fun l => one? (x :: l) = some a → x :: l = [a]) l (fun e => Option.some.inj e ▸ rfl) fun _ _ => nn) h
theorem VRs.one {P : Addr → Obj → Prop} {ρ : List Cell} {vs : List V} {Xs : List Value} {v : V} (h : VRs P ρ vs Xs) (e : one? vs = some v) : ∃ X, Xs = [X] ∧ VR P ρ v X := by cases one?_is e; exact h.inv1
noncomputable def two? {α : Type} (l : List α) : Option (α × α) := List.casesOn l none fun a l => (one? l).map fun b => (a, b)
theorem VRs.two {P : Addr → Obj → Prop} {ρ : List Cell} {xs vs} (h : VRs P ρ xs vs) {p : V × V} (e : two? xs = some p) : ∃ X Y, vs = [X, Y] ∧ VR P ρ p.1 X ∧ VR P ρ p.2 Y := by
 cases xs with
 | nil => cases e
 | cons a l =>
  obtain ⟨X, ys, rfl, r, h⟩ := h.inv
  exact omp e fun b e1 q => (h.one e1).imp' (fun Y => X) fun Y z => ⟨Y, by rw [z.1], q ▸ r, q ▸ z.2⟩
noncomputable def V.tup? (v : V) : Option (List V) := V.casesOn v Option.none (fun _ => Option.none) (fun _ => Option.none) (fun _ => Option.none) some (fun _ => Option.none) (fun _ => Option.none) (fun _ _ => Option.none) (fun _ => Option.none) fun _ => Option.none
theorem V.tup?_is {v : V} {i : List V} (h : v.tup? = some i) : v = .tup i := V.casesOn (motive_1 := fun v => v.tup? = some i → v = .tup i) v nn (fun _ => nn) (fun _ => nn) (fun _ => nn) (fun _ e => congrArg _ (Option.some.inj e)) (fun _ => nn) (fun _ => nn) (fun _ _ => nn) (fun _ => nn) (fun _ => nn) h
theorem VR.isTup {P : Addr → Obj → Prop} {ρ : List Cell} {v : V} {X : Value} {i : List V} (h : VR P ρ v X) (e : v.tup? = some i) : ∃ a vs, X = .ref a ∧ P a (tupO vs) ∧ VRs P ρ i vs := by cases V.tup?_is e; exact h.inv
noncomputable def V.pr? (v : V) : Option (V × V) := v.tup?.bind two?
theorem VR.isPr {P : Addr → Obj → Prop} {ρ : List Cell} {v : V} {X : Value} {p : V × V} (h : VR P ρ v X) (e : v.pr? = some p) : ∃ a Y Z, X = .ref a ∧ P a (tupO [Y, Z]) ∧ VR P ρ p.1 Y ∧ VR P ρ p.2 Z := obp e fun xs e1 e2 => by
 obtain ⟨a, vs, rfl, q, r⟩ := h.isTup e1
 obtain ⟨Y, Z, rfl, y, z⟩ := r.two e2
 exact ⟨a, Y, Z, rfl, q, y, z⟩
theorem P2.int {t : Value → Value → Sem Value} {f : Int → Int → Option V} (h : ∀ (x y : Int) (p q : Tok) (u : V) (Q : Value → Shared → Prop) (E : Value → Shared → Prop) (s : Shared), f x y = some u → (∀ Z tk, (∀ P ρ, VR P ρ u Z) → Q Z { s with toks := tk }) → wpAny W.M Φ.A (t (.int x p) (.int y q)) Q E s) : P2 W Φ t (int2 f) := fun loc H a b u X Y ρ s Q E e S ha hb k => by
 refine obp e fun x e1 e => obp e fun y e2 e => ?_
 obtain ⟨p, rfl⟩ := ha.isInt e1
 obtain ⟨q, rfl⟩ := hb.isInt e2
 exact h _ _ _ _ _ _ _ _ e fun Z tk z => k _ _ Kp.toks (z _ _)
theorem P2.str {t : Value → Value → Sem Value} {f : Str → Str → Option V} (h : ∀ (x y : Str) (p q : Tok) (u : V) (Q : Value → Shared → Prop) (E : Value → Shared → Prop) (s : Shared), f x y = some u → (∀ Z tk, (∀ P ρ, VR P ρ u Z) → Q Z { s with toks := tk }) → wpAny W.M Φ.A (t (.str x p) (.str y q)) Q E s) : P2 W Φ t (str2 f) := fun loc H a b u X Y ρ s Q E e S ha hb k => by
 refine obp e fun x e1 e => obp e fun y e2 e => ?_
 obtain ⟨p, rfl⟩ := ha.isStr e1
 obtain ⟨q, rfl⟩ := hb.isStr e2
 exact h _ _ _ _ _ _ _ _ e fun Z tk z => k _ _ Kp.toks (z _ _)
theorem isList_of {a : Addr} {vs : List Value} {n : Nat} {h : Heap} (e : h.get? a = some (lstO vs n)) : h.IsList a vs.toArray := ⟨_, e, rfl, n, rfl⟩
theorem raw_add_lists {M : Program} {w : World} {A : Around} {l b : Addr} {vs ws : List Value} {n n2 : Nat} {Q : Value → Shared → Prop} {E : Value → Shared → Prop} (ho : s.heap.get? l = some (lstO vs n)) (ho2 : s.heap.get? b = some (lstO ws n2))
  (h : Q (.ref s.heap.objs.size) { s with heap := s.heap.push (lstO (vs ++ ws) 0) }) (hsz : vs.length + ws.length ≤ sizeLine) : wpAny (model M w) A (binaryOp .Add (.ref l) (.ref b)) Q E s := by
 have e : vs.toArray ++ ws.toArray = (vs ++ ws).toArray := by simp
 refine concat_meets ⟨_, ho, rfl⟩ ⟨_, ho2, rfl⟩ noFill_list_add seq_list_add PySem.F.slot_list_add PySem.F.entry_list_add (PySem.F.args_list_add_2 _ _) (list_addW l b vs.toArray ws.toArray n n2 none none #[] #[] (by simpa using hsz)) ⟨ho, ho2, ?_⟩
 rw [e]; exact h
noncomputable def addI : V → V → Option V := int2 fun x y => some (.int (x + y))
noncomputable def addS : V → V → Option V := str2 fun x y => if x.length + y.length ≤ 100000 then some (.str (x ++ y)) else none
noncomputable def addL (a b : V) : Option V := a.lst?.bind fun xs => b.lst?.bind fun ys => if xs.length + ys.length ≤ 1000 then some (.lst (xs ++ ys)) else none
noncomputable def addV (a b : V) : Option V := (addI a b).or ((addS a b).or (addL a b))
theorem op_addL : P2 W Φ (binaryOp .Add) addL := fun loc H a b u X Y ρ s Q E e S ha hb k => by
 refine obp e fun xs e1 e => obp e fun ys e2 e => ifs e fun hz q => ?_
 subst q
 refine cps fun G kG => ?_
 obtain ⟨a1, vs1, n1, rfl, pa, va⟩ := ha.isLst e1
 obtain ⟨a2, vs2, n2, rfl, pb, vb⟩ := hb.isLst e2
 have k1 := Kp.pushO s (lstO (vs1 ++ vs2) 0)
 exact kG (raw_add_lists pa.1 pb.1 (k _ _ k1 (.lst (S.got rfl) ((k1.stp.monos va).append (k1.stp.monos vb)))) (va.length ▸ vb.length ▸ le_size3 hz))
theorem op_add : S2 W Φ (binaryOp .Add) (pure2 addV) := P2.s2 (.or (.int fun x y p q u Q E s e k => PyProof.Rows.add_int (k _ _ (Option.some.inj e ▸ fun _ _ => .int _ _)))
 (.or (.str fun x y p q u Q E s e k => ifs e fun hz e => SB.add (fun t' _ => k _ _ (e ▸ fun _ _ => .str _ _)) (le_size hz)) op_addL))
noncomputable def subI : V → V → Option V := int2 fun x y => some (.int (x - y))
noncomputable def subB (a b : V) : Option V := a.bool?.bind fun x => b.bool?.bind fun y => some (.int (b2i x - b2i y))
noncomputable def subV (a b : V) : Option V := (subI a b).or (subB a b)
theorem op_sub : S2 W Φ (binaryOp .Sub) (pure2 subV) := P2.s2 (.or (.int fun x y p q u Q E s e k => PyProof.Rows.sub_int (k _ _ (Option.some.inj e ▸ fun _ _ => .int _ _)))
 fun loc H a b u X Y ρ s Q E e S ha hb k => obp e fun x e1 e => obp e fun y e2 e => by
  cases ha.isBool e1
  cases hb.isBool e2
  exact sub_bool (k _ _ Kp.toks (Option.some.inj e ▸ .int _ _)))
end
end
end
section
section
section
variable {W : Wd} {Φ : Fx} {ρ : List Cell} {loc : Loc} {H : List AO} {s : Shared}
noncomputable def truthV (H : List AO) (v : V) : Option Bool := V.casesOn v (some false) some (fun i => some (i != 0)) (fun x => if x.length ≤ 100000 then some ((x.length : Int) != 0) else none) (fun _ => none) (fun xs => if xs.length ≤ 100000 then some (!xs.isEmpty) else none)
 (fun i => listAt (fun xs => if xs.length ≤ 100000 then some (!xs.isEmpty) else none) H[i]?) (fun _ _ => none) (fun _ => none) fun _ => none
theorem VRs.empty {P : Addr → Obj → Prop} {xs : List V} {vs : List Value} (h : VRs P ρ xs vs) : vs.toArray.isEmpty = xs.isEmpty := h.ind (m := fun xs vs => vs.toArray.isEmpty = xs.isEmpty) rfl fun _ _ _ => rfl
theorem wp_truthy_list {P : Addr → Obj → Prop} {A : Around} {l : Addr} {xs : List V} {vs : List Value} {n : Nat} {Q : Bool → Shared → Prop} {E : Value → Shared → Prop} {pg : Program} {w : World} {b : Bool} (hs : VRs P ρ xs vs) (ho : s.heap.get? l = some (lstO vs n)) (hf : (if xs.length ≤ 100000 then some (!xs.isEmpty) else none) = some b) (h : Q b { s with toks := s.toks + 1 + 1 }) :
  wpAny (model pg w) A (truthy (.ref l)) Q E s := ifs hf fun hz e => wpAny_truthy_list (isList_of ho) (Int.lt_of_le_of_lt (Int.ofNat_le.mpr (Nat.le_trans (Nat.le_of_eq hs.length.symm) hz)) (by decide)) (hs.empty ▸ e ▸ h)
theorem wp_truth (S : SI W Φ ρ loc H s) {v : V} {b : Bool} {X : Value} {Q : Bool → Shared → Prop} {E : Value → Shared → Prop} (hf : truthV H v = some b) (hv : VR (Φ.P ρ s.heap) ρ v X)
  (k : ∀ s', Kp s s' → Q b s') : wpAny W.M Φ.A (truthy X) Q E s :=
 VR.casesOn (motive_1 := fun v X _ => truthV H v = some b → wpAny W.M Φ.A (truthy X) Q E s) hv (fun e => truthy_none (Option.some.inj e ▸ k _ .refl)) (fun _ e => wpAny_truthy_bool (Option.some.inj e ▸ k _ .refl)) (fun _ _ e => truthy_int (Option.some.inj e ▸ k _ .refl)) (fun _ _ e => ifs e fun hz e => P.truthy_str (by omega) (e ▸ k _ Kp.toks)) (fun _ => nn) (fun _ _ => nn) (fun _ _ => nn)
  (fun ha hs e => wp_truthy_list hs ha.1 e (k _ Kp.toks)) (fun hi e => listAt_is e fun xs hx e => (S.hp.2 _ _ _ hi hx).2.elim fun vs z => z.elim fun n z => wp_truthy_list z.2 z.1 e (k _ Kp.toks)) (fun _ => nn) hf
noncomputable def testF (f : EF) : TF := fun loc H => (f loc H).bind fun p => (truthV p.2 p.1).map (·, p.2)
theorem sb_val {e : Expr} {f : EF} (he : SE W Φ e f) (hp : isTrue e Φ.env (eval e Φ.env) = (do let v ← eval e Φ.env; standAt e.pos; holding [v] (truthy v)) := by rfl) : SB W Φ e (testF f) := fun loc H b H' ρ s Q E hf S k => by
 unfold testF at hf
 refine obp2 hf fun v H1 e1 hf => ?_
 refine omp hf fun c e2 hf => ?_
 replace k := k.of hf
 exact isTrue_plain (he _ _ _ _ _ _ _ _ e1 S fun X s1 ρ1 t1 S1 v1 => wp_truth S1 e2 v1 fun s2 k2 => k _ _ (t1.trans k2.stp) (S1.kept k2)) hp
theorem sb_cmp {l r : Expr} {op : CmpOp} {pos : Pos} {f g : EF} {h} (hl : SE W Φ l f) (hr : SE W Φ r g) (ho : S2 W Φ (compareOp op) h) (hm : behindInMarks op r = false := by with_unfolding_all rfl) : SB W Φ (.Compare l [op] [r] pos) (testF (binF f g h)) := fun loc H b H' ρ s Q E hf S k => by
 unfold testF at hf
 refine obp2 hf fun v H1 e1 hf => ?_
 refine omp hf fun c e2 hf => ?_
 replace k := k.of hf
 unfold binF at e1
 refine obp2 e1 fun a H1 e1 e3 => ?_
 refine obp2 e3 fun b' H2 e4 e3 => ?_
 exact wpAny_isTrue_Compare1 (hl _ _ _ _ _ _ _ _ e1 S fun X s1 ρ1 t1 S1 v1 => hr _ _ _ _ _ _ _ _ e4 S1 fun Y s2 ρ2 t2 S2' v2 => ho _ _ _ _ _ _ _ _ _ _ _ _ e3 S2' (t2.mono v1) v2 fun Z s3 ρ3 t3 S3 v3 =>
  wp_truth S3 e2 v3 fun s4 k4 => k _ _ (((t1.trans t2).trans t3).trans k4.stp) (S3.kept k4)) hm
noncomputable def notF (f : TF) : TF := fun loc H => (f loc H).map fun p => (!p.1, p.2)
theorem sb_not {x : Expr} {pos : Pos} {f : TF} (hx : SB W Φ x f) : SB W Φ (.UnaryOp .Not x pos) (notF f) := fun loc H b H' ρ s Q E hf S k => by
 unfold notF at hf
 refine omp2 hf fun c H1 e1 hf => ?_
 replace k := k.of hf
 exact wpAny_isTrue_Not (hx _ _ _ _ _ _ _ _ e1 S fun s1 ρ1 t1 S1 => k _ _ t1 S1)
noncomputable def andF (f g : TF) : TF := fun loc H => (f loc H).bind fun p => if p.1 then g loc p.2 else some (false, p.2)
noncomputable def orF (f g : TF) : TF := fun loc H => (f loc H).bind fun p => if p.1 then some (true, p.2) else g loc p.2
theorem sb_and {x y : Expr} {pos : Pos} {f g : TF} (hx : SB W Φ x f) (hy : SB W Φ y g) : SB W Φ (.BoolOp .And [x, y] pos) (andF f g) := fun loc H b H' ρ s Q E hf S k => by
 unfold andF at hf
 refine obp2 hf fun c H1 e1 hf => ?_
 refine wpAny_isTrue_BoolOp (wpAny_allTrue_And_cons (hx _ _ _ _ _ _ _ _ e1 S fun s1 ρ1 t1 S1 => ?_))
 cases c with
 | false => cases hf; exact k _ _ t1 S1
 | true =>
  refine wpAny_allTrue_And_cons (hy _ _ _ _ _ _ _ _ hf S1 fun s2 ρ2 t2 S2' => ?_)
  cases b with
  | true => exact wpAny_allTrue_And_nil (k _ _ (t1.trans t2) S2')
  | false => exact k _ _ (t1.trans t2) S2'
theorem sb_or {x y : Expr} {pos : Pos} {f g : TF} (hx : SB W Φ x f) (hy : SB W Φ y g) : SB W Φ (.BoolOp .Or [x, y] pos) (orF f g) := fun loc H b H' ρ s Q E hf S k => by
 unfold orF at hf
 refine obp2 hf fun c H1 e1 hf => ?_
 refine wpAny_isTrue_BoolOp (wpAny_allTrue_Or_cons (hx _ _ _ _ _ _ _ _ e1 S fun s1 ρ1 t1 S1 => ?_))
 cases c with
 | true => cases hf; exact k _ _ t1 S1
 | false =>
  refine wpAny_allTrue_Or_cons (hy _ _ _ _ _ _ _ _ hf S1 fun s2 ρ2 t2 S2' => ?_)
  cases b with
  | false => exact wpAny_allTrue_Or_nil (k _ _ (t1.trans t2) S2')
  | true => exact k _ _ (t1.trans t2) S2'
noncomputable def iteF (t : TF) (f g : EF) : EF := fun loc H => (t loc H).bind fun p => if p.1 then f loc p.2 else g loc p.2
theorem se_ite {c x y : Expr} {pos : Pos} {t : TF} {f g : EF} (hc : SB W Φ c t) (hx : SE W Φ x f) (hy : SE W Φ y g) : SE W Φ (.IfExp c x y pos) (iteF t f g) := fun loc H v H' ρ s Q E hf S k => by
 unfold iteF at hf
 refine obp2 hf fun b H1 e1 hf => ?_
 refine wpAny_IfExp (hc _ _ _ _ _ _ _ _ e1 S fun s1 ρ1 t1 S1 => ?_)
 cases b with
 | true => exact hx _ _ _ _ _ _ _ _ hf S1 fun X s2 ρ2 t2 S2' v2 => k _ _ _ (t1.trans t2) S2' v2
 | false => exact hy _ _ _ _ _ _ _ _ hf S1 fun X s2 ρ2 t2 S2' v2 => k _ _ _ (t1.trans t2) S2' v2
noncomputable def negF (f : EF) : EF := fun loc H => (f loc H).bind fun p => p.1.int?.map fun i => (.int (-i), p.2)
theorem se_neg {x : Expr} {pos : Pos} {f : EF} (hx : SE W Φ x f) : SE W Φ (.UnaryOp .USub x pos) (negF f) := fun loc H v H' ρ s Q E hf S k => by
 refine obp2 hf fun a H1 e1 hf => omp hf fun i e2 q => ?_
 refine wpAny_UnaryOp (hx _ _ _ _ _ _ _ _ e1 S fun X s1 ρ1 t1 S1 v1 => (v1.isInt e2).elim fun t e => ?_)
 subst e
 exact P.neg_int (k.of q _ _ _ (t1.trans Kp.toks.stp) (S1.kept Kp.toks) (.int _ _))
/-! statements -/
theorem FR.mono {P P' : Addr → Obj → Prop} {ρ ρ' : List Cell} (hp : ∀ a o, P a o → P' a o) (hr : ∀ (i : Nat) c, ρ[i]? = some c → ρ'[i]? = some c) {r X} (h : FR P ρ r X) : FR P' ρ' r X := h.on trivial trivial trivial fun _ _ v => v.mono hp hr
theorem sx_nil : SX W Φ (execs [] Φ.env) (fun loc H => some (.next, loc, H)) := fun loc H r loc' H' ρ s Q E hf S k => wpAny_execs_nil (k.ofS hf _ _ _ .refl S trivial)
noncomputable def seqK {α : Type} (x y : α) (a : FL) : α := FL.casesOn a x y y fun _ => y
noncomputable def seqF (f g : SF) : SF := fun loc H => (f loc H).bind fun p => seqK (g p.2.1 p.2.2) (some p) p.1
theorem FR.seq {α : Type} {P : Addr → Obj → Prop} {a : FL} {X : Flow} {x y z : α} (r : FR P ρ a X) (hf : seqK x y a = z) {N : Prop} {Q : Flow → Prop} (hn : x = z → N) (hq : y = z → Q X) : match (generalizing := false) X with | .next => N | f => Q f := by
 revert hf hq
 exact r.on (fun hf _ => hn hf) (fun hf hq => hq hf) (fun hf hq => hq hf) fun _ _ _ hf hq => hq hf
theorem sx_cons {st : Stmt} {rest : List Stmt} {f g : SF} (hs : SX W Φ (exec st Φ.env) f) (hr : SX W Φ (execs rest Φ.env) g) : SX W Φ (execs (st :: rest) Φ.env) (seqF f g) := fun loc H r loc' H' ρ s Q E hf S k =>
 obp3 hf fun a l1 H1 e1 hf => wpAny_execs_cons (hs _ _ _ _ _ _ _ _ _ e1 S fun X s1 ρ1 t1 S1 r1 => r1.seq hf (fun hf => hr _ _ _ _ _ _ _ _ _ hf S1 fun X s2 ρ2 t2 S2' r2 => k _ _ _ (t1.trans t2) S2' r2) fun hf => k.ofS hf _ _ _ t1 S1 r1)
noncomputable def loopK {α : Type} (x b : α) (y : V → α) (a : FL) : α := FL.casesOn a x b x y
theorem FR.loop {α : Type} {P : Addr → Obj → Prop} {a : FL} {X : Flow} {x b z : α} {y : V → α} (r : FR P ρ a X) (hf : loopK x b y a = z) {N : Prop} {Q : Flow → Prop} (hn : x = z → N) (hb : b = z → Q .next) (hr : ∀ v X, VR P ρ v X → y v = z → Q (.ret X)) :
  match (generalizing := false) X with | .next | .cont => N | .brk => Q .next | .ret v => Q (.ret v) := by
 revert hf
 exact r.on hn hb hn hr
noncomputable def bodyK (a : FL) (h : List AO) : Option (V × List AO) := FL.casesOn a (some (.none, h)) none none fun v => some (v, h)
@[elab_as_elim] theorem FR.body {P : Addr → Obj → Prop} {C : Flow → Prop} {a : FL} {X : Flow} {h h' : List AO} {v : V} (r1 : FR P ρ a X) (hf : bodyK a h = some (v, h')) (hn : VR P ρ v .none → h = h' → C .next) (hr : ∀ X, VR P ρ v X → h = h' → C (.ret X)) : C X := by
 revert hf
 exact r1.on (fun hf => by cases hf; exact hn .none rfl) nn nn fun u Y r1 hf => by cases hf; exact hr Y r1 rfl
noncomputable def setF (i : Nat) (f : EF) : SF := fun loc H => (f loc H).map fun p => (.next, loc.set i (some p.1), p.2)
theorem sx_assign (O : Φ.Ok W) (i : Nat) {x : Str} {k : Option Addr} {p pos : Pos} {e : Expr} {f : EF} (hn : Φ.names[i]? = some (x, k)) (he : SE W Φ e f) (hk : k ≠ none → Φ.env.kindOf x = some .cell)
  (hs : swapsWith e (some (.Name x p)) pos.line Φ.env = pure false) : SX W Φ (exec (.Assign [.Name x p] e pos) Φ.env) (setF i f) := fun loc H r loc' H' ρ s Q E hf S kk => by
 unfold setF at hf
 refine omp2 hf fun v H1 e1 hf => ?_
 replace kk := kk.of hf
 exact wpAny_Assign_Name (he _ _ _ _ _ _ _ _ e1 S fun X s1 ρ1 t1 S1 v1 => wp_store O hn S1 v1 hk fun s2 t2 S2' => kk _ _ _ (t1.trans t2) S2' trivial) hs
noncomputable def retF (f : EF) : SF := fun loc H => (f loc H).map fun p => (.ret p.1, loc, p.2)
theorem sx_return {e : Expr} {pos : Pos} {f : EF} (he : SE W Φ e f) : SX W Φ (exec (.Return (some e) pos) Φ.env) (retF f) := fun loc H r loc' H' ρ s Q E hf S k => by
 unfold retF at hf
 refine omp2 hf fun v H1 e1 hf => ?_
 replace k := k.of hf
 exact wpAny_Return_some (he _ _ _ _ _ _ _ _ e1 S fun X s1 ρ1 t1 S1 v1 => k _ _ _ t1 S1 v1)
theorem sx_return_none {pos : Pos} : SX W Φ (exec (.Return none pos) Φ.env) (fun loc H => some (.ret .none, loc, H)) := fun loc H r loc' H' ρ s Q E hf S k => wpAny_Return_none (k.ofS hf _ _ _ .refl S .none)
noncomputable def ifF (t : TF) (f g : SF) : SF := fun loc H => (t loc H).bind fun p => if p.1 then f loc p.2 else g loc p.2
theorem sx_if {c : Expr} {a b : List Stmt} {pos : Pos} {t : TF} {f g : SF} (hc : SB W Φ c t) (ha : SX W Φ (execs a Φ.env) f) (hb : SX W Φ (execs b Φ.env) g) : SX W Φ (exec (.If c a b pos) Φ.env) (ifF t f g) := fun loc H r loc' H' ρ s Q E hf S k => by
 unfold ifF at hf
 refine obp2 hf fun x H1 e1 hf => ?_
 refine wpAny_If (hc _ _ _ _ _ _ _ _ e1 S fun s1 ρ1 t1 S1 => ?_)
 cases x with
 | true => exact ha _ _ _ _ _ _ _ _ _ hf S1 fun X s2 ρ2 t2 S2' v2 => k _ _ _ (t1.trans t2) S2' v2
 | false => exact hb _ _ _ _ _ _ _ _ _ hf S1 fun X s2 ρ2 t2 S2' v2 => k _ _ _ (t1.trans t2) S2' v2
noncomputable def exprF (f : EF) : SF := fun loc H => (f loc H).map fun p => (.next, loc, p.2)
theorem sx_expr {e : Expr} {pos : Pos} {f : EF} (he : SE W Φ e f) (hi : interactive Φ.env = false) (hs : swapsWith e none pos.line Φ.env = pure false) : SX W Φ (exec (.Expr e pos) Φ.env) (exprF f) := fun loc H r loc' H' ρ s Q E hf S k => by
 unfold exprF at hf
 refine omp2 hf fun v H1 e1 hf => ?_
 replace k := k.of hf
 exact wpAny_Expr_any (he _ _ _ _ _ _ _ _ e1 S fun X s1 ρ1 t1 S1 v1 => k _ _ _ t1 S1 trivial) hi hs
theorem sx_break {pos : Pos} : SX W Φ (exec (.Break pos) Φ.env) (fun loc H => some (.brk, loc, H)) := fun loc H r loc' H' ρ s Q E hf S k => wpAny_Break (k.ofS hf _ _ _ .refl S trivial)
theorem sx_continue {pos : Pos} : SX W Φ (exec (.Continue pos) Φ.env) (fun loc H => some (.cont, loc, H)) := fun loc H r loc' H' ρ s Q E hf S k => wpAny_Continue (k.ofS hf _ _ _ .refl S trivial)
end
end
end
section
section
section
variable {W : Wd} {Φ : Fx} {ρ : List Cell} {loc : Loc} {H : List AO} {s : Shared} {P : Addr → Obj → Prop}
noncomputable def mulI : V → V → Option V := int2 fun a b => if -(2 ^ 40) < b ∧ b < 2 ^ 40 then some (.int (a * b)) else none
noncomputable def mulS (a b : V) : Option V := a.str?.bind fun x => b.int?.bind fun n => if 0 ≤ n ∧ n ≤ 1000 ∧ x.length ≤ 100 then some (.str (Txt.mul x n)) else none
noncomputable def mulV (a b : V) : Option V := (mulI a b).or (mulS a b)
theorem op_mul : S2 W Φ (binaryOp .Mult) (pure2 mulV) := P2.s2 (.or (.int fun x y p q u Q E s e k => ifs e fun hz e => P.mul_int (k _ _ (e ▸ fun _ _ => .int _ _)) (IntMulOk.of_right (intBits_le_64 (by omega) (by omega))))
 fun loc H a b u X Y ρ s Q E e S ha hb k => by
  refine obp e fun x e1 e => obp e fun y e2 e => ifs e fun hz eq => ?_
  obtain ⟨p, rfl⟩ := ha.isStr e1
  obtain ⟨q, rfl⟩ := hb.isInt e2
  exact SB.mul (mulOk_of 100 1000 hz.2.2 hz.2.1 (by omega) (by decide) (by decide)) fun t' kk => k _ _ Kp.toks (eq ▸ .str _ _))
noncomputable def fdivV : V → V → Option V := int2 fun a b => if 0 < b ∧ b < 2 ^ 29 then some (.int (a.fdiv b)) else none
theorem op_fdiv : S2 W Φ (binaryOp .FloorDiv) (pure2 fdivV) := P2.s2 (.int fun x y p q u Q E s e k => ifs e fun hz e => PyProof.Rows.floordiv_int (by omega) (k _ _ (e ▸ fun _ _ => .int _ _)) (.inl (PyProof.noPylong_small (by omega))))
noncomputable def fmodV : V → V → Option V := int2 fun a b => if 0 < b ∧ b < 2 ^ 40 then some (.int (a.fmod b)) else none
theorem op_fmod : S2 W Φ (binaryOp .Mod) (pure2 fmodV) := P2.s2 (.int fun x y p q u Q E s e k => ifs e fun hz e => PyProof.Rows.mod_int' (by omega) (k _ _ (e ▸ fun _ _ => .int _ _)))
noncomputable def iaddV : V → V → Option V := int2 fun a b => some (.int (a + b))
theorem op_iadd : S2 W Φ (inplaceOp .Add) (pure2 iaddV) := P2.s2 (.int fun x y p q u Q E s e k => P.iadd_int (k _ _ (Option.some.inj e ▸ fun _ _ => .int _ _)))
noncomputable def ltV : V → V → Option V := int2 fun a b => some (.bool (decide (a < b)))
theorem op_lt : S2 W Φ (compareOp .Lt) (pure2 ltV) := P2.s2 (.int fun x y p q u Q E s e k => P.lt_int (k _ s.toks (Option.some.inj e ▸ fun _ _ => .bool _)))
noncomputable def gtV : V → V → Option V := int2 fun a b => some (.bool (decide (a > b)))
theorem op_gt : S2 W Φ (compareOp .Gt) (pure2 gtV) := P2.s2 (.int fun x y p q u Q E s e k => P.gt_int (k _ s.toks (Option.some.inj e ▸ fun _ _ => .bool _)))
noncomputable def V.ref? (v : V) : Option Nat := V.casesOn v Option.none (fun _ => Option.none) (fun _ => Option.none) (fun _ => Option.none) (fun _ => Option.none) (fun _ => Option.none) some (fun _ _ => Option.none) (fun _ => Option.none) fun _ => Option.none
noncomputable def V.typ? (v : V) : Option String := V.casesOn v Option.none (fun _ => Option.none) (fun _ => Option.none) (fun _ => Option.none) (fun _ => Option.none) (fun _ => Option.none) (fun _ => Option.none) (fun _ _ => Option.none) some fun _ => Option.none
noncomputable def V.isN (v : V) : Bool := V.casesOn v true (fun _ => false) (fun _ => false) (fun _ => false) (fun _ => false) (fun _ => false) (fun _ => false) (fun _ _ => false) (fun _ => false) fun _ => false
theorem V.ref?_is {v : V} {i : Nat} (h : v.ref? = some i) : v = .ref i := V.casesOn (motive_1 := fun v => v.ref? = some i → v = .ref i) v nn (fun _ => nn) (fun _ => nn) (fun _ => nn) (fun _ => nn) (fun _ => nn) (fun _ e => congrArg _ (Option.some.inj e)) (fun _ _ => nn) (fun _ => nn) (fun _ => nn) h
theorem nf {C : Prop} (h : false = true) : C := nomatch h
theorem VR.isRef {v : V} {X : Value} {i : Nat} (h : VR P ρ v X) (e : v.ref? = some i) : ∃ c, ρ[i]? = some c ∧ X = .ref c.1 :=
 VR.casesOn (motive_1 := fun v X _ => v.ref? = some i → ∃ c, ρ[i]? = some c ∧ X = .ref c.1) h nn (fun _ => nn) (fun _ _ => nn) (fun _ _ => nn) (fun _ => nn) (fun _ _ => nn) (fun _ _ => nn) (fun _ _ => nn) (fun h e => ⟨_, Option.some.inj e ▸ h, rfl⟩) (fun _ => nn) e
theorem VR.isTyp {v : V} {X : Value} {i : String} (h : VR P ρ v X) (e : v.typ? = some i) : X = .type i :=
 VR.casesOn (motive_1 := fun v X _ => v.typ? = some i → X = .type i) h nn (fun _ => nn) (fun _ _ => nn) (fun _ _ => nn) (fun _ e => Option.some.inj e ▸ rfl) (fun _ _ => nn) (fun _ _ => nn) (fun _ _ => nn) (fun _ => nn) (fun _ => nn) e
theorem VR.isNone {v : V} {X : Value} (h : VR P ρ v X) (e : v.isN = true) : X = .none :=
 VR.casesOn (motive_1 := fun v X _ => v.isN = true → X = .none) h (fun _ => rfl) (fun _ => nf) (fun _ _ => nf) (fun _ _ => nf) (fun _ => nf) (fun _ _ => nf) (fun _ _ => nf) (fun _ _ => nf) (fun _ => nf) (fun _ => nf) e
noncomputable def isntN (a b : V) : Option V := if (a.isN && b.isN) = true then some (.bool false) else none
noncomputable def isntR (a b : V) : Option V := a.ref?.bind fun i => b.ref?.bind fun j => if i = j then some (.bool false) else none
noncomputable def isntT (a b : V) : Option V := a.typ?.bind fun i => b.typ?.bind fun j => if i = j then some (.bool false) else none
noncomputable def isntV (a b : V) : Option V := (isntN a b).or ((isntR a b).or (isntT a b))
theorem op_isnt : S2 W Φ (compareOp .IsNot) (pure2 isntV) := P2.s2 (.or (fun loc H a b u X Y ρ s Q E e S ha hb k => ifs e fun h e => by
  have h := Bool.and_eq_true_iff.mp h
  cases ha.isNone h.1
  cases hb.isNone h.2
  exact wpAny_isNot_self rfl (k _ _ .refl (e ▸ .bool _)))
 (.or (fun loc H a b u X Y ρ s Q E e S ha hb k => obp e fun i e1 e => obp e fun j e2 e => ifs e fun h e => (ha.isRef e1).elim fun c y => (hb.isRef e2).elim fun d z => by
  rw [y.2, z.2, Option.some.inj (y.1.symm.trans (h ▸ z.1))]
  exact wpAny_isNot_ref_self (k _ _ .refl (e ▸ .bool _)))
 fun loc H a b u X Y ρ s Q E e S ha hb k => obp e fun i e1 e => obp e fun j e2 e => ifs e fun h e9 => by
  subst h
  cases ha.isTyp e1
  cases hb.isTyp e2
  exact wpAny_isNot_self rfl (k _ _ .refl (e9 ▸ .bool _))))
noncomputable def augF (i : Nat) (f : EF) (h : List AO → V → V → Option (V × List AO)) : SF := fun loc H => (loc[i]?.join).bind fun a => (f loc H).bind fun p => (h p.2 a p.1).map fun q => (.next, loc.set i (some q.1), q.2)
theorem sx_aug (O : Φ.Ok W) (i : Nat) {x : Str} {k : Option Addr} {p pos : Pos} {op : Operator} {e : Expr} {f : EF} {h} (hn : Φ.names[i]? = some (x, k)) (he : SE W Φ e f) (ho : S2 W Φ (inplaceOp op) h) (hk : k ≠ none → Φ.env.kindOf x = some .cell) :
  SX W Φ (exec (.AugAssign (.Name x p) op e pos) Φ.env) (augF i f h) := fun loc H r loc' H' ρ s Q E hf S kk => by
 unfold augF at hf
 refine obp hf fun a e0 hf => ?_
 refine obp2 hf fun b H1 e1 hf => ?_
 refine omp2 hf fun c H2 e2 hf => ?_
 replace kk := kk.of hf
 have hl : loc[i]? = some (some a) := join_some e0
 exact wpAny_AugAssign_Name (wp_load O i hn hl S fun X va => he _ _ _ _ _ _ _ _ e1 S fun Y s2 ρ2 t2 S2' v2 => ho _ _ _ _ _ _ _ _ _ _ _ _ e2 S2' (t2.mono va) v2 fun Z s3 ρ3 t3 S3 v3 => wp_store O hn S3 v3 hk fun s4 t4 S4 => kk _ _ _ ((t2.trans t3).trans t4) S4 trivial)
end
end
end
section
section
section
variable {W : Wd} {Φ : Fx} {ρ : List Cell} {loc : Loc} {H : List AO} {s : Shared} {P : Addr → Obj → Prop}
noncomputable def small (k : Int) : Bool := decide (-(2 ^ 40) < k) && decide (k < 2 ^ 40)
noncomputable def at? {α : Type} (k : Int) (xs : List α) : Option α := (seqIndex? k xs.length).bind fun j => xs[j]?
noncomputable def listOf? (H : List AO) (v : V) : Option (List V) := V.casesOn v none (fun _ => none) (fun _ => none) (fun _ => none) (fun _ => none) some (fun i => listAt some H[i]?) (fun _ _ => none) (fun _ => none) fun _ => none
theorem listOf_heap (hp : ∀ a o, P a o → s.heap.get? a = some o) (hh : HInv W.w s.heap P ρ H) {v : V} {xs : List V} {X : Value} (h : listOf? H v = some xs) (r : VR P ρ v X) : ∃ a vs n, X = .ref a ∧ s.heap.get? a = some (lstO vs n) ∧ VRs P ρ xs vs :=
 V.casesOn (motive_1 := fun v => listOf? H v = some xs → VR P ρ v X → _) v nn (fun _ => nn) (fun _ => nn) (fun _ => nn) (fun _ => nn)
  (fun _ h r => Option.some.inj h ▸ r.inv.imp fun _ => .imp fun _ => .imp fun _ z => ⟨z.1, hp _ _ z.2.1, z.2.2⟩)
  (fun i h r => r.inv.elim fun c z => listAt_is h fun ys hx q => Option.some.inj q ▸ (hh.2 i c _ z.1 hx).2.elim fun vs h => h.elim fun n y => ⟨_, vs, n, z.2, y⟩)
  (fun _ _ => nn) (fun _ => nn) (fun _ => nn) h r
theorem SI.listE (S : SI W Φ ρ loc H s) {v : V} {xs : List V} {X : Value} (h : listOf? H v = some xs) (r : VR (Φ.P ρ s.heap) ρ v X) {C : Prop} (k : ∀ a vs n, X = .ref a → s.heap.get? a = some (lstO vs n) → VRs (Φ.P ρ s.heap) ρ xs vs → C) : C :=
 (listOf_heap (fun _ _ z => z.1) S.hp h r).elim fun a h => h.elim fun vs h => h.elim fun n z => k a vs n z.1 z.2.1 z.2.2
theorem SI.list (S : SI W Φ ρ loc H s) {v : V} {xs : List V} {X : Value} (h : listOf? H v = some xs) (r : VR (Φ.P ρ s.heap) ρ v X) : ∃ a vs n, X = .ref a ∧ s.heap.get? a = some (lstO vs n) ∧ VRs (Φ.P ρ s.heap) ρ xs vs :=
 listOf_heap (fun _ _ z => z.1) S.hp h r
theorem at_some {α : Type} {k : Int} {xs : List α} {x : α} {C : Prop} (h : at? k xs = some x) (K : ∀ j, seqIndex? k xs.length = some j → xs[j]? = some x → C) : C := obp h K
theorem seqIndex_cases {k : Int} {n j : Nat} (h : seqIndex? k n = some j) : (0 ≤ k ∧ j = k.toNat ∧ k < n) ∨ (k < 0 ∧ -(n : Int) ≤ k ∧ j = (k + n).toNat) := by
 unfold seqIndex? at h
 by_cases hk : k < 0
 ·rw [if_pos hk] at h
  refine ifs h fun q e => .inr ⟨hk, ?_, e.symm⟩
  have := decide_eq_true_eq.mp (Bool.and_eq_true_iff.mp q).1
  omega
 ·rw [if_neg hk] at h
  exact ifs h fun q e => .inl ⟨Int.not_lt.mp hk, e.symm, decide_eq_true_eq.mp (Bool.and_eq_true_iff.mp q).2⟩
noncomputable def idxL (H : List AO) (k : Int) (a : V) : Option (V × List AO) := (listOf? H a).bind fun xs => (at? k xs).map (·, H)
noncomputable def idxT (H : List AO) (k : Int) (xs : List V) : Option (V × List AO) := (at? k xs).map (·, H)
noncomputable def idxS (H : List AO) (k : Int) (x : Str) : Option (V × List AO) := ((seqIndex? k x.length).bind fun j => x.cps[j]?).map fun c => (.str ⟨#[c]⟩, H)
noncomputable def idxW (H : List AO) (k : Int) (a : V) : Option (V × List AO) := V.casesOn a none (fun _ => none) (fun _ => none) (idxS H k) (idxT H k) (fun xs => idxL H k (.lst xs)) (fun i => idxL H k (.ref i)) (fun _ _ => none) (fun _ => none) fun _ => none
noncomputable def idxF (H : List AO) (a b : V) : Option (V × List AO) := b.int?.bind fun k => if small k then idxW H k a else none
theorem idxF_int {k : Int} {a : V} (hk : small k = true) : idxF H a (.int k) = idxW H k a := if_pos hk
theorem small_is {k : Int} (h : small k = true) : -(2 ^ 40) < k ∧ k < 2 ^ 40 := have h := Bool.and_eq_true_iff.mp h; ⟨decide_eq_true_eq.mp h.1, decide_eq_true_eq.mp h.2⟩
theorem op_idx {value slice : Expr} (hs : ∀ o i, subscripted slice false o i = operate [o, i] (getItem o i)) : S2 W Φ (subscriptTail value slice) idxF := fun loc H a b v H' X Y ρ s Q E hf S ha hb kk => obp hf fun k e0 hf1 => ifo hf1 fun hz1 hf2 => by
 have hz := small_is hz1
 obtain ⟨u, rfl⟩ := hb.isInt e0
 have gen : ∀ {a X}, VR (Φ.P ρ s.heap) ρ a X → idxL H k a = some (v, H') → wpAny W.M Φ.A (subscriptTail value slice X (.int k u)) Q E s := fun ha hf => obp hf fun xs e1 hf => omp hf fun x e2 q => at_some e2 fun j e3 e4 => S.listE e1 ha fun l vs n eX ho hv => (hv.get e4).elim fun Z z => by
  subst eX
  have fin := kk.of q Z s ρ .refl S z.2
  exact tail_any (isList_of ho).typeIs slot_list_getitem.lookup ((seqIndex_cases e3).elim (fun y => wpAny_getItem_list (isList_of ho) y.1 (by omega) (List.getElem?_toArray.trans (y.2.1 ▸ z.1)) fin)
   fun y => wpAny_getItem_list_neg (isList_of ho) y.1 (show -(vs.length : Int) ≤ k from hv.length ▸ y.2.1) (by omega) (List.getElem?_toArray.trans (show vs[(k + (vs.length : Int)).toNat]? = some Z from hv.length ▸ y.2.2 ▸ z.1)) fin) (hs _ _)
 exact VR.casesOn (motive_1 := fun a X _ => idxW H k a = some (v, H') → wpAny W.M Φ.A (subscriptTail value slice X (.int k u)) Q E s) ha nn (fun _ => nn) (fun _ _ => nn)
  (fun x t e => omp e fun c e2 q => tail_any (typeIs_str s x _) PySem.F.slot_str_getitem.lookup (P.getItem_str (by simp; omega) e2 (kk.of q _ _ ρ Kp.toks.stp (S.kept Kp.toks) (.str _ _))) (hs _ _)) (fun _ => nn) (fun _ _ => nn)
  (fun hp hv e => omp e fun x e2 q => at_some e2 fun j e3 e4 => (hv.get e4).elim fun Z z => item_tupleT ⟨_, hp.1, rfl, _, rfl⟩ (by omega) (by omega) (hv.length ▸ e3) z.1 (kk.of q Z s ρ .refl S z.2) (hs _ _))
  (fun ha hs e => gen (.lst ha hs) e) (fun hi e => gen (.ref hi) e) (fun _ => nn) hf2
theorem se_sub {value slice : Expr} {pos : Pos} {f g : EF} {h} (hv : SE W Φ value f) (hi : SE W Φ slice g) (ho : S2 W Φ (subscriptTail value slice) h) : SE W Φ (.Subscript value slice pos) (binF f g h) := fun loc H v H' ρ s Q E hf S k => by
 unfold binF at hf
 refine obp2 hf fun a H1 e1 hf => ?_
 refine obp2 hf fun b H2 e2 hf => ?_
 exact Subscript_ (hv _ _ _ _ _ _ _ _ e1 S fun X s1 ρ1 t1 S1 v1 => hi _ _ _ _ _ _ _ _ e2 S1 fun Y s2 ρ2 t2 S2' v2 => ho _ _ _ _ _ _ _ _ _ _ _ _ hf S2' (t2.mono v1) v2 fun Z s3 ρ3 t3 S3 v3 => k _ _ _ ((t1.trans t2).trans t3) S3 v3)
noncomputable abbrev PF := Loc → List AO → Option (Option Int × List AO)
noncomputable def SP.K (W : Wd) (Φ : Fx) (ρ : List Cell) (loc : Loc) (s : Shared) (Q : Value → Shared → Prop) (p : Option Int) (H' : List AO) : Prop := ∀ X s' ρ', Stp Φ ρ ρ' s s' → SI W Φ ρ' loc H' s' → IsPart X p → Q X s'
noncomputable def SP (W : Wd) (Φ : Fx) (e : Option Expr) (f : PF) : Prop := ∀ loc H p H' ρ s (Q : Value → Shared → Prop) (E : Value → Shared → Prop), f loc H = some (p, H') → SI W Φ ρ loc H s →
 SP.K W Φ ρ loc s Q p H' → wpAny W.M Φ.A (evalPart e Φ.env) Q E s
theorem SP.K.of {Q v a h H'} (k : SP.K W Φ ρ loc s Q v H') (e : (a, h) = (v, H')) : SP.K W Φ ρ loc s Q a h := eq2 k e
theorem sp_none : SP W Φ none (fun _ H => some (none, H)) := fun loc H p H' ρ s Q E hf S k => wpAny_evalPart_none (k.of (Option.some.inj hf) _ _ _ .refl S .none)
noncomputable def partF (f : EF) : PF := fun loc H => (f loc H).bind fun p => p.1.int?.map fun i => (some i, p.2)
theorem sp_some {e : Expr} {f : EF} (he : SE W Φ e f) : SP W Φ (some e) (partF f) := fun loc H p H' ρ s Q E hf S k => obp2 hf fun v H1 e1 hf => omp hf fun i e2 q => wpAny_evalPart_some (he _ _ _ _ _ _ _ _ e1 S fun X s1 ρ1 t1 S1 v1 => (v1.isInt e2).elim fun t e => k.of q _ _ _ t1 S1 (e ▸ .int _ _))
noncomputable def pickI {α : Type} (xs : List α) (lo hi st : Option Int) : List α := let b := sliceBounds lo hi st xs.length; (sliceRange b.1 b.2.1 b.2.2).filterMap (xs[·]?)
theorem VRs.picks {xs : List V} {vs : List Value} (h : VRs P ρ xs vs) : ∀ is : List Nat, VRs P ρ (is.filterMap (xs[·]?)) (is.filterMap (vs[·]?))
 | [] => .nil
 | i :: is => by
  cases e : xs[i]? with
  | none =>
   have e2 : vs[i]? = none := by rw [List.getElem?_eq_none_iff] at e ⊢; rw [← h.length]; exact e
   simp only [List.filterMap_cons, e, e2]; exact h.picks is
  | some x =>
   obtain ⟨v, e2, r⟩ := h.get e
   simp only [List.filterMap_cons, e, e2]; exact .cons r (h.picks is)
theorem VRs.pickI {xs : List V} {vs : List Value} (h : VRs P ρ xs vs) (lo hi st : Option Int) : VRs P ρ (pickI xs lo hi st) (pickI vs lo hi st) := by
 unfold Mine.pickI
 rw [← h.length]
 exact h.picks _
noncomputable def sliceF (f : EF) (p q r : PF) : EF := fun loc H => (f loc H).bind fun a => (p loc a.2).bind fun lo => (q loc lo.2).bind fun hi => (r loc hi.2).bind fun st =>
 (listOf? st.2 a.1).bind fun xs => if st.1 ≠ some 0 ∧ xs.length ≤ 1000 then some (.lst (pickI xs lo.1 hi.1 st.1), st.2) else none
theorem se_slice {value : Expr} {lower upper step : Option Expr} {p0 pos : Pos} {f : EF} {p q r : PF} (hv : SE W Φ value f) (hp : SP W Φ lower p) (hq : SP W Φ upper q) (hr : SP W Φ step r)
  (hs : ∀ o i, ∃ ops, subscripted (.Slice lower upper step p0) false o i = operate ops (getItem o i)) : SE W Φ (.Subscript value (.Slice lower upper step p0) pos) (sliceF f p q r) := fun loc H v H' ρ s Q E hf S k => by
 refine obp2 hf fun a H1 e1 hf => obp2 hf fun lo H2 e2 hf => obp2 hf fun hi H3 e3 hf => obp2 hf fun st H4 e4 hf => obp hf fun xs e5 hf => ifs hf fun hz q => ?_
 refine Subscript_ (hv _ _ _ _ _ _ _ _ e1 S fun X s1 ρ1 t1 S1 v1 => wpAny_Slice (hp _ _ _ _ _ _ _ _ e2 S1 fun L s2 ρ2 t2 S2' l2 => hq _ _ _ _ _ _ _ _ e3 S2' fun U s3 ρ3 t3 S3 u3 => hr _ _ _ _ _ _ _ _ e4 S3 fun T s4 ρ4 t4 S4 st4 => ?_))
 have k1 := Kp.pushO s4 { cls := .type "slice", data := .fields #[L, U, T] }
 have S5 := S4.kept k1
 refine S5.listE e5 (k1.stp.mono (((t2.trans t3).trans t4).mono v1)) fun l vs n eX ho hl => (hs (.ref l) (.ref s4.heap.objs.size)).elim fun ops hops => ?_
 subst eX
 refine tail_any (isList_of ho).typeIs slot_list_getitem.lookup (wpAny_getItem_list_slice (isList_of ho) (Heap.IsSliceOf.new _ _ _ _) l2 u3 st4 hz.1 ?_ (size_ok hz.2 hl)) hops
 have e : slicePick vs.toArray lo hi st = (pickI vs lo hi st).toArray := by
  unfold slicePick pickI; simp
 have k2 := Kp.pushO { s4 with heap := s4.heap.push { cls := .type "slice", data := .fields #[L, U, T] } } (lstO (pickI vs lo hi st) 0)
 rw [e]
 exact k.of q _ _ ρ4 (((((t1.trans t2).trans t3).trans t4).trans k1.stp).trans k2.stp) (S5.kept k2) (.lst (S5.got rfl) (k2.stp.monos (hl.pickI _ _ _)))
end
end
end
section
section
inductive BVs (P : Addr → Obj → Prop) (ρ : List Cell) : List (Str × V) → List (Str × Value) → Prop where
 | nil : BVs P ρ [] []
 | cons {x v X ab bs} : VR P ρ v X → BVs P ρ ab bs → BVs P ρ ((x, v) :: ab) ((x, X) :: bs)
theorem BVs.names {P : Addr → Obj → Prop} {ρ : List Cell} : ∀ {ab bs}, BVs P ρ ab bs → bs.map (·.1) = ab.map (·.1)
 | _, _, .nil => rfl
 | _, _, .cons _ hs => by simp [hs.names]
noncomputable def bindA (x : Str) : List (Str × V) → Option V → Option V
 | [], d => d
 | (n, v) :: r, d => bindA x r (if x = n then some v else d)
theorem bindL_rel {P : Addr → Obj → Prop} {ρ : List Cell} {k : Str → Option NameKind} {x : Str} (hx : k x = some .local) : ∀ {ab bs}, BVs P ρ ab bs → ∀ {m : Str → Option Value} {d : Option V}, (∀ v, d = some v → ∃ X, m x = some X ∧ VR P ρ v X) →
  ∀ v, bindA x ab d = some v → ∃ X, bindL k bs m x = some X ∧ VR P ρ v X
 | _, _, .nil, _, _, h => h
 | _, _, .cons (x := n) hv hs, m, d, h => fun v e => by
  unfold bindL
  refine bindL_rel hx hs ?_ v e
  by_cases q : x = n
  ·subst q
   simp only [hx, if_true]
   intro v e; cases e
   exact ⟨_, rfl, hv⟩
  ·simp only [q, if_false]
   intro v e
   obtain ⟨X, e1, e2⟩ := h v e
   refine ⟨X, ?_, e2⟩
   split
   ·simp only [q, if_false]; exact e1
   ·exact e1
theorem bindC_rel {P : Addr → Obj → Prop} {ρ : List Cell} {k : Str → Option NameKind} {x : Str} (hx : k x ≠ some .local) : ∀ {ab bs}, BVs P ρ ab bs → ∀ {m : Str → Option Value} {d : Option V}, (∀ v, d = some v → ∃ X, m x = some X ∧ VR P ρ v X) →
  ∀ v, bindA x ab d = some v → ∃ X, bindC k bs m x = some X ∧ VR P ρ v X
 | _, _, .nil, _, _, h => h
 | _, _, .cons (x := n) hv hs, m, d, h => fun v e => by
  unfold bindC
  refine bindC_rel hx hs ?_ v e
  by_cases q : x = n
  ·subst q
   simp only [hx, if_false, if_true]
   intro v e; cases e
   exact ⟨_, rfl, hv⟩
  ·simp only [q, if_false]
   intro v e
   obtain ⟨X, e1, e2⟩ := h v e
   refine ⟨X, ?_, e2⟩
   split
   ·exact e1
   ·simp only [q, if_false]; exact e1
theorem cellsFrom_shift : ∀ (names : List (Str × NameKind)) (n k : Nat) (acc : List (Str × Addr)), cellsFrom (n + k) names (acc.map fun p => (p.1, n + p.2)) = (cellsFrom k names acc).map fun p => (p.1, n + p.2)
 | [], _, _, _ => rfl
 | (name, kind) :: r, n, k, acc => by
  unfold cellsFrom
  split
  ·exact cellsFrom_shift r n (k + 1) ((name, k) :: acc)
  ·exact cellsFrom_shift r n k acc
theorem lookup_shift {n : Nat} {x : Str} : ∀ {l : List (Str × Addr)} {k : Nat}, l.lookup x = some k → (l.map fun p => (p.1, n + p.2)).lookup x = some (n + k)
 | (y, a) :: r, k, h => by
  rw [List.map_cons, List.lookup_cons]
  rw [List.lookup_cons] at h
  cases q : x == y with
  | true => rw [q] at h; cases h; rfl
  | false => rw [q] at h; exact lookup_shift h
theorem cellsFrom_at {names : List (Str × NameKind)} {n k : Nat} {x : Str} (h : (cellsFrom 0 names []).lookup x = some k) : (cellsFrom n names []).lookup x = some (n + k) := by
 have e := cellsFrom_shift names n 0 []
 simp only [List.map_nil, Nat.add_zero] at e
 rw [e]
 exact lookup_shift h
noncomputable def namesAt (L : Addr) (xs : List (Str × Option Nat)) : List (Str × Option Addr) := xs.map fun p => (p.1, p.2.map fun k => L + 1 + k)
noncomputable def nameOk (sc : Scope) (p : Str × Option Nat) : Bool := match p.2 with
 | none => sc.names.lookup p.1 == some .local
 | some k => sc.names.lookup p.1 == some .cell && ((cellsFrom 0 sc.names []).lookup p.1 == some k && !(p.1 == ("__classdict__" : Str)))
noncomputable def namesOk (sc : Scope) (xs : List (Str × Option Nat)) : Bool := sc.kind == .function && (xs.all (nameOk sc) && decide (xs.map (·.1)).Nodup)
noncomputable abbrev fx (fd : FuncData) (f : Addr) (xs : List (Str × Option Nat)) (n : Nat) (A : Around) (g : Heap) (L : Addr) (base : Bs) (fr : List Env) : Fx :=
 ⟨A, callEnvC fd L f, g, L, namesAt L xs, base, fr, n⟩
noncomputable def locA (xs : List (Str × Option Nat)) (ab : List (Str × V)) : Loc := xs.map fun p => bindA p.1 ab none
noncomputable def FnOk (W : Wd) (n : Nat) (f : Value) (F : List V → List AO → Option (V × List AO)) : Prop :=
 ∀ Φ : Fx, Φ.Ok W → n < Φ.lv → ∀ loc H args v H' Vs ρ s (R : Result → Shared → Prop), F args H = some (v, H') → SI W Φ ρ loc H s → VRs (Φ.P ρ s.heap) ρ args Vs →
  SE.K W Φ ρ loc s (fun X => R (.ok (.ret X))) v H' → codeAny W.M Φ.A (.call f ⟨Vs, []⟩) R s
section
variable {W : Wd} {Φ : Fx} {ρ ρ' : List Cell} {loc : Loc} {H H' : List AO} {s s' : Shared}
theorem mem_names {xs : List (Str × Option Nat)} {L : Addr} {i : Nat} {x : Str} {k : Option Addr} (h : (namesAt L xs)[i]? = some (x, k)) : ∃ k', xs[i]? = some (x, k') ∧ k = k'.map fun k => L + 1 + k := by
 unfold namesAt at h
 rw [List.getElem?_map] at h
 refine omp h fun p e1 e2 => ?_
 cases e2
 exact ⟨p.2, e1, rfl⟩
theorem cellsAt_mem {xs : List (Str × Option Nat)} {L c : Addr} (h : c ∈ (namesAt L xs).filterMap (·.2)) : ∃ x k, (x, some k) ∈ xs ∧ c = L + 1 + k := by
 obtain ⟨p, hp, e⟩ := List.mem_filterMap.mp h
 unfold namesAt at hp
 obtain ⟨q, hq, rfl⟩ := List.mem_map.mp hp
 obtain ⟨x, k⟩ := q
 cases k with
 | none => cases e
 | some k => cases e; exact ⟨x, k, hq, rfl⟩
theorem nameOk_of {sc : Scope} {xs : List (Str × Option Nat)} (h : namesOk sc xs = true) : sc.kind = .function ∧ (∀ p ∈ xs, nameOk sc p = true) ∧ (xs.map (·.1)).Nodup := by
 unfold namesOk at h
 simp only [Bool.and_eq_true, decide_eq_true_eq] at h
 exact ⟨by simpa using h.1, fun p hp => List.all_eq_true.mp h.2.1 p hp, h.2.2⟩
theorem nameOk_cell {sc : Scope} {x : Str} {k : Nat} (h : nameOk sc (x, some k) = true) : sc.names.lookup x = some .cell ∧ (cellsFrom 0 sc.names []).lookup x = some k ∧ (x == ("__classdict__" : Str)) = false := by
 unfold nameOk at h
 simp only [Bool.and_eq_true] at h
 exact ⟨by simpa using h.1, by simpa using h.2.1, by simpa using h.2.2⟩
theorem nameOk_local {sc : Scope} {x : Str} (h : nameOk sc (x, none) = true) : sc.names.lookup x = some .local := by
 unfold nameOk at h
 simpa using h
theorem SI.leave {Ψ : Fx} {loc' : Loc} {s1 s' : Shared} (S : SI W Φ ρ loc H s) (kp : Kp s s1) (hL : s.heap.objs.size ≤ Ψ.L) (hc : ∀ c ∈ Ψ.cells, s.heap.objs.size ≤ c) (hX : Ψ.base.X = Φ.L :: Φ.base.X) (hXF : Ψ.base.F = Φ.L :: Φ.base.F) (hX0 : Ψ.base.h0 = s.heap) (T : Stp Ψ ρ ρ' s1 s') (S' : SI W Ψ ρ' loc' H' s') :
  Stp Φ ρ ρ' s s' ∧ SI W Φ ρ' loc H' s' ∧ (∀ a o, Ψ.P ρ' s'.heap a o → Flat o → Φ.P ρ' s'.heap a o) := by
 have p1 := S.p1
 have p3 := S.p3
 have p4 := S.p4
 have p6 := S.p6
 have q5 := S'.p5
 have q7 := S'.p7
 have memT : ∀ a, a ∈ Ψ.T ↔ a = Φ.L ∨ a ∈ Φ.T := fun a => by
  unfold Fx.T
  rw [hX]
  simp only [List.mem_append, List.mem_cons]
  constructor
  ·rintro (h | h | h) <;> simp [h]
  ·rintro (h | h | h) <;> simp [h]
 have inner : ∀ a o, s.heap.get? a = some o → a ≠ Φ.L → a ∉ mutA ρ → a ∉ Φ.T → s'.heap.get? a = some o ∧ a ∉ Ψ.M ρ' := fun a o e h0 h1 h2 => by
  refine T.keep a o (kp.k a o e) fun hm => ?_
  have hlt := Heap.lt_size e
  refine mem_M_cases hm (fun h => ?_) (fun h => ?_) (fun h => ?_) fun h => ?_
  ·subst h; exact absurd hlt (Nat.not_lt.mpr hL)
  ·exact absurd hlt (Nat.not_lt.mpr (hc a h))
  ·exact h1 h
  ·exact ((memT a).mp h).elim h0 h2
 have notM : ∀ a, a ∉ Ψ.M ρ' → a ∉ mutA ρ' ∧ a ∉ Φ.T := fun a h => ⟨fun q => h (mem_M_mut q), fun q => h (mem_M_tb ((memT a).mpr (.inr q)))⟩
 have stp : Stp Φ ρ ρ' s s' := ⟨T.pre, fun a o e n => by
  obtain ⟨k1, k2⟩ := inner a o e (fun q => n (q ▸ mem_M_L)) (fun q => n (mem_M_mut q)) (fun q => n (mem_M_tb q))
  refine ⟨k1, fun hm => ?_⟩
  obtain ⟨n1, n2⟩ := notM a k2
  refine mem_M_cases hm (fun h => ?_) (fun h => ?_) (fun h => ?_) fun h => ?_
  ·exact n (h ▸ mem_M_L)
  ·exact n (mem_M_cell h)
  ·exact n1 h
  ·exact n2 h, T.os.trans kp.os⟩
 obtain ⟨m, F, l⟩ := S.m
 obtain ⟨oL, es, ep, eL, rL⟩ := F.ns
 have hup : UpX (Φ.L :: Φ.base.X) (Φ.L :: Φ.base.F) s.heap s'.heap := by
  have z := S'.up
  rw [hX, hXF, hX0] at z
  exact z
 obtain ⟨oL0, oL', eL0, eL', dLL, _⟩ := hup Φ.L (.head _)
 have eqL : oL0 = oL := by rw [eL] at eL0; exact (Option.some.inj eL0).symm
 subst eqL
 have dL' : oL'.data = .dict es ep := dLL.trans rL.1
 have nLm : Φ.L ∉ mutA ρ' ∧ Φ.L ∉ Φ.T := ⟨fun q => q5 _ q ((memT _).mpr (.inl rfl)), p3⟩
 have fC : ∀ c ∈ Φ.cells, ∀ v, s.heap.IsCell c v → s'.heap.IsCell c v ∧ c ∉ mutA ρ' ∧ c ∉ Φ.T := fun c hc v ⟨o, e, d⟩ => by
  have z := inner c o e (fun q => p1 (q ▸ hc)) (p4 c hc).1 (p4 c hc).2
  exact ⟨⟨o, z.1, d⟩, notM c z.2⟩
 have gk : ∀ b o, Φ.g.get? b = some o → s'.heap.get? b = some o ∧ b ∉ Ψ.M ρ' := fun b o e => by
  have n : b ∉ Φ.M ρ := fun q => by have := S.gn b q; rw [e] at this; cases this
  exact inner b o (F.keep b o e) (fun q => n (q ▸ mem_M_L)) (fun q => n (mem_M_mut q)) (fun q => n (mem_M_tb q))
 have pm : ∀ a o, Ψ.P ρ' s'.heap a o → Flat o → Φ.P ρ' s'.heap a o := fun a o z fl => ⟨z.1, fun hm => by
  obtain ⟨n1, n2⟩ := notM a z.2
  refine mem_M_cases hm (fun h => ?_) (fun h => ?_) (fun h => ?_) fun h => ?_
  ·subst h
   have := z.1; rw [eL'] at this; cases this
   have fl := fl.1; unfold FlatD at fl; rw [dL'] at fl; exact fl
  ·obtain ⟨v, hv⟩ := S.cl a h
   obtain ⟨o', e, d⟩ := (fC a h v hv).1
   have := z.1; rw [e] at this; cases this
   have fl := fl.1; unfold FlatD at fl; rw [d] at fl; exact fl
  ·exact n1 h
  ·exact n2 h⟩
 refine ⟨stp, ⟨⟨m, ⟨⟨oL', es, ep, eL', dL', rL.2⟩, fun b o e => (gk b o e).1, F.above⟩, l.to (fun c hc v h => (fC c hc v h).1) fun _ _ => stp.mono⟩, fun c hc => (S.cl c hc).imp fun v h => (fC c hc v h).1, ⟨S'.hp.1, fun i c o h1 h2 => (S'.hp.2 i c o h1 h2).monoF (fun _ _ _ e => e) pm fun _ _ h => h⟩, ?_, ?_, ?_, S'.tb, S'.gens, S.up.trans fun a ha => let ⟨o, o', e1, e2, e3, e4⟩ := hup a (.tail _ ha); ⟨o, o', e1, e2, e3, e4.imp id fun q => (List.mem_cons.mp q).resolve_left fun z => p3 (by rw [← z]; exact mem_T_X ha)⟩⟩, pm⟩
 ·unfold Fx.M
  rw [List.nodup_cons]
  refine ⟨fun h => ?_, ?_⟩
  ·rcases List.mem_append.mp h with h | h
   ·exact p1 h
   ·rcases List.mem_append.mp h with h | h
    ·exact nLm.1 h
    ·exact nLm.2 h
  ·rw [List.nodup_append]
   refine ⟨p6, ?_, fun a ha b hb e => ?_⟩
   ·rw [List.nodup_append]
    exact ⟨q7, S.ndT, fun a ha b hb e => q5 a ha ((memT _).mpr (.inr (e ▸ hb)))⟩
   ·subst e
    obtain ⟨v, h⟩ := S.cl a ha
    have z := (fC a ha v h).2
    rcases List.mem_append.mp hb with h | h
    ·exact z.1 h
    ·exact z.2 h
 ·intro a ha
  cases q : Φ.g.get? a with
  | none => rfl
  | some o =>
   have z := notM a (gk a o q).2
   refine mem_M_cases ha (fun h => ?_) (fun h => ?_) (fun h => ?_) fun h => ?_
   ·have := S.gn Φ.L mem_M_L; rw [← h, q] at this; cases this
   ·have := S.gn a (mem_M_cell h); rw [q] at this; cases this
   ·exact absurd h z.1
   ·exact absurd h z.2
 ·intro a ha
  unfold Fx.M at ha
  rcases List.mem_cons.mp ha with h | h
  ·exact h ▸ Heap.lt_size eL'
  ·rcases List.mem_append.mp h with h | h
   ·obtain ⟨v, hv⟩ := S.cl a h
    obtain ⟨o, e, _⟩ := (fC a h v hv).1
    exact Heap.lt_size e
   ·refine S'.lt a ?_
    rcases List.mem_append.mp h with h | h
    ·exact mem_M_mut h
    ·exact mem_M_tb ((memT a).mpr (.inr h))
end
end
end
section
section
section
variable {W : Wd} {Φ : Fx} {ρ ρ' : List Cell} {loc : Loc} {H H' : List AO} {s s' : Shared}
noncomputable def Fx.push (Φ : Fx) (h : Heap) : Bs := ⟨Φ.base.b, Φ.L :: Φ.base.X, h, Φ.L :: Φ.base.F⟩
theorem mem_M_T' {a : Addr} (h : a ∈ TB ++ (Φ.L :: Φ.base.X)) : a ∈ Φ.M ρ := by
 rcases List.mem_append.mp h with h | h
 ·exact mem_M_tb (mem_T_tb h)
 ·rcases List.mem_cons.mp h with h | h
  ·exact h ▸ mem_M_L
  ·exact mem_M_tb (mem_T_X h)
theorem SI.ndT' (S : SI W Φ ρ loc H s) : (TB ++ (Φ.L :: Φ.base.X)).Nodup := by
 rw [List.perm_middle.nodup_iff]
 exact List.nodup_cons.mpr ⟨S.p3, S.ndT⟩
theorem notT' (S : SI W Φ ρ loc H s) : ∀ a ∈ mutA ρ, a ∉ TB ++ (Φ.L :: Φ.base.X) := fun a ha h => by
 have p2 := S.p2
 have p5 := S.p5
 rcases List.mem_append.mp h with h | h
 ·exact p5 a ha (mem_T_tb h)
 ·rcases List.mem_cons.mp h with h | h
  ·exact p2 (h ▸ ha)
  ·exact p5 a ha (mem_T_X h)
theorem funFrames_of {h h' base : Heap} : ∀ {l : List Env}, h.FunFrames base l → (∀ e ∈ l, ∀ b o, e.frame = some b → h.get? b = some o → ∃ o', h'.get? b = some o' ∧ o'.data = o.data) → h'.FunFrames base l
 | [], _, _ => trivial
 | e :: r, ⟨k1, ⟨L, o, k2, k3, k4, k5⟩, k6⟩, k => by
  obtain ⟨o', e1, e2⟩ := k e (.head _) L o k2 k4
  exact ⟨k1, ⟨L, o', k2, k3, e1, fun vs => e2 ▸ k5 vs⟩, funFrames_of k6 fun x hx => k x (.tail _ hx)⟩
theorem SI.upPush (S : SI W Φ ρ loc H s) {h' : Heap} (hk : ∀ b o, s.heap.get? b = some o → h'.get? b = some o) : UpX (Φ.L :: Φ.base.X) (Φ.L :: Φ.base.F) s.heap h' := fun a ha => by
 rcases List.mem_cons.mp ha with h | h
 ·subst h
  obtain ⟨m, F, _⟩ := S.m
  obtain ⟨o, es, ep, e, r⟩ := F.ns
  exact ⟨o, o, e, hk _ _ e, rfl, .inl rfl⟩
 ·obtain ⟨o, o', e1, e2, e3⟩ := S.up a h
  exact ⟨o', o', e2, hk _ _ e2, rfl, .inl rfl⟩
noncomputable def gOf (Φ : Fx) (s : Shared) (ρ : List Cell) : Heap := hideAll s.heap (mutA ρ ++ (TB ++ (Φ.L :: Φ.base.X)))
theorem SI.ground (S : SI W Φ ρ loc H s) {b : Addr} {o : Obj} (e : Φ.g.get? b = some o) : (gOf Φ s ρ).get? b = some o := by
 obtain ⟨m, F, _⟩ := S.m
 refine hideAll_get _ (F.keep b o e) fun q => ?_
 have : b ∈ Φ.M ρ := by
  rcases List.mem_append.mp q with h | h
  ·exact mem_M_mut h
  ·exact mem_M_T' h
 have := S.gn b this
 rw [e] at this; cases this
theorem cellsNodup {cl : List (Str × Addr)} {sz : Nat} (ap : cl.Pairwise fun x y => x.2 ≠ y.2) : ∀ {xs : List (Str × Option Nat)}, (∀ y k, (y, some k) ∈ xs → cl.lookup y = some (sz + 1 + k)) → (xs.map (·.1)).Nodup → ((namesAt sz xs).filterMap (·.2)).Nodup
 | [], _, _ => List.nodup_nil
 | (y, none) :: r, h, hn => cellsNodup ap (xs := r) (fun z k hm => h z k (.tail _ hm)) (List.nodup_cons.mp hn).2
 | (y, some k) :: r, h, hn => by
  show ((sz + 1 + k) :: (namesAt sz r).filterMap (·.2)).Nodup
  rw [List.map_cons, List.nodup_cons] at hn
  rw [List.nodup_cons]
  refine ⟨fun hm => ?_, cellsNodup ap (xs := r) (fun z k hm => h z k (.tail _ hm)) hn.2⟩
  obtain ⟨z, k', hz, e⟩ := cellsAt_mem hm
  have h1 := mem_of_lookup (h y k (.head _))
  have h2 := mem_of_lookup (h z k' (.tail _ hz))
  rw [← e] at h2
  have := name_of_addr ap h1 h2
  exact hn.1 (this ▸ List.mem_map_of_mem (f := (·.1)) hz)
theorem SI.enter {n : Nat} {f : Addr} {fd : FuncData} {xs : List (Str × Option Nat)} {ab : List (Str × V)} {bs : List (Str × Value)} (O : Φ.Ok W) (S : SI W Φ ρ loc H s) (hn : n < Φ.lv) (hk : namesOk fd.scope xs = true)
  (hgl : fd.globals = mainGlobals) (hbi : fd.builtins = builtinsNs)
  (hb : BVs (Φ.P ρ s.heap) ρ ab bs)
  (x : InCallC s s.heap.objs.size (bindL (callEnvC fd s.heap.objs.size f).kindOf bs fun _ => none) (cellsFrom (s.heap.objs.size + 1) fd.scope.names []) (bindC (callEnvC fd s.heap.objs.size f).kindOf bs fun _ => none) s') :
  (fx fd f xs n (Φ.A.deeper (callEnvC fd s.heap.objs.size f)) (gOf Φ s ρ) s.heap.objs.size (Φ.push s.heap) (callEnvC fd s.heap.objs.size f :: Φ.fr)).Ok W ∧
  SI W (fx fd f xs n (Φ.A.deeper (callEnvC fd s.heap.objs.size f)) (gOf Φ s ρ) s.heap.objs.size (Φ.push s.heap) (callEnvC fd s.heap.objs.size f :: Φ.fr)) ρ (locA xs ab) H s' ∧ Kp s s' := by
 obtain ⟨hkf, hall, hnd⟩ := nameOk_of hk
 obtain ⟨h', tk, rfl, hkeep⟩ := x.done
 obtain ⟨m, F, l⟩ := S.m
 have p7 := S.p7
 have gk := fun b o (e : Φ.g.get? b = some o) => S.ground e
 have gs : ∀ b o, (gOf Φ s ρ).get? b = some o → s.heap.get? b = some o := fun b o e => of_hideAll _ e
 obtain ⟨oL, es, ep, eL, rL⟩ := F.ns
 have ce : ∀ y k, (y, some k) ∈ xs → (cellsFrom (s.heap.objs.size + 1) fd.scope.names []).lookup y = some (s.heap.objs.size + 1 + k) := fun y k hm => cellsFrom_at (nameOk_cell (hall _ hm)).2.1
 have klt : s.heap.objs.size < h'.objs.size := by
  obtain ⟨o, _, _, e, _⟩ := x.toInCall.ns
  exact Heap.lt_size e
 have kp : Kp s { s with heap := h', toks := tk } := ⟨hkeep, Nat.le_of_lt klt, rfl, id⟩
 have cs : ∀ c ∈ (namesAt s.heap.objs.size xs).filterMap (·.2), s.heap.objs.size < c ∧ ∃ v, h'.IsCell c v := fun c hc => by
  obtain ⟨y, k, hm, rfl⟩ := cellsAt_mem hc
  exact ⟨by show _ < s.heap.objs.size + 1 + k; omega, _, x.cell _ _ (ce y k hm)⟩
 have hup : UpX (Φ.L :: Φ.base.X) (Φ.L :: Φ.base.F) s.heap h' := S.upPush hkeep
 have pk : ∀ a o, Φ.P ρ s.heap a o → (fx fd f xs n (Φ.A.deeper (callEnvC fd s.heap.objs.size f)) (gOf Φ s ρ) s.heap.objs.size (Φ.push s.heap) (callEnvC fd s.heap.objs.size f :: Φ.fr)).P ρ h' a o := fun a o z => ⟨hkeep _ _ z.1, fun hm => by
  have hlt := Heap.lt_size z.1
  refine mem_M_cases hm (fun h => ?_) (fun h => ?_) (fun h => ?_) fun h => ?_
  ·exact absurd hlt (by rw [h]; exact Nat.lt_irrefl _)
  ·exact absurd (Nat.lt_trans hlt (cs a h).1) (Nat.lt_irrefl _)
  ·exact z.2 (mem_M_mut h)
  ·exact z.2 (mem_M_T' h)⟩
 refine ⟨⟨?_, ?_, ?_, ?_, ?_, ?_, ?_, rfl, hgl, hbi, hkf, ?_, ?_, ?_, ?_⟩, ⟨⟨_, ⟨x.toInCall.ns, fun b o e => hkeep b o (gs b o e), Nat.le_of_eq (hideAll_size _ _)⟩, ?_⟩, fun c hc => (cs c hc).2, ?_, ?_, ?_, ?_, S.tb.mono hkeep, S.gens, hup⟩, kp⟩
 ·exact O.K.keeps gk
 ·exact O.T.keeps gk
 ·exact Around.frames_deeper O.frames
 ·exact fun b o e => gk b o (O.stays b o e)
 ·intro h ⟨m', F'⟩
  intro hu
  refine .cons (by show fd.scope.kind ≠ _; rw [hkf]; decide) rfl F'.ns ?_ (funFrames_of (O.stack _ ⟨m, F⟩ S.up) fun e he b o hf ho => ?_)
  ·show Φ.base.b.get? s.heap.objs.size = none
   cases q : Φ.base.b.get? s.heap.objs.size with
   | none => rfl
   | some o => exact absurd (Heap.lt_size (F.keep _ _ (O.stays _ _ q))) (Nat.lt_irrefl _)
  ·have viaX : b ∈ Φ.L :: Φ.base.X → ∃ o', h.get? b = some o' ∧ o'.data = o.data := fun hb => by
    obtain ⟨o1, o2, u1, u2, u3, u4⟩ := hu b hb
    have u1 : s.heap.get? b = some o1 := u1
    rw [ho] at u1; cases u1
    exact ⟨o2, u2, u3⟩
   rcases O.off e he with h | ⟨b', o', h1, h2⟩ | ⟨b', hb, h1⟩
   ·have q : Φ.L = b := Option.some.inj (h.symm.trans hf)
    exact viaX (q ▸ .head _)
   ·have q : b' = b := Option.some.inj (h1.symm.trans hf)
    subst q
    have := F.keep _ _ h2
    rw [ho] at this; cases this
    exact ⟨_, F'.keep _ _ (gk _ _ h2), rfl⟩
   ·have q : b' = b := Option.some.inj (h1.symm.trans hf)
    exact viaX (q ▸ .tail _ hb)
 ·intro e he
  rcases List.mem_cons.mp he with rfl | he
  ·exact .inl rfl
  ·rcases O.off e he with h | ⟨b, o, h1, h2⟩ | ⟨b, hb, h1⟩
   ·exact .inr (.inr ⟨_, .head _, h⟩)
   ·exact .inr (.inl ⟨b, o, h1, gk b o h2⟩)
   ·exact .inr (.inr ⟨b, .tail _ hb, h1⟩)
 ·exact O.hh
 ·intro i y k h
  obtain ⟨k', e1, e2⟩ := mem_names h
  have hm := List.mem_of_getElem? e1
  cases k' with
  | none => subst e2; exact nameOk_local (hall _ hm)
  | some k' =>
   subst e2
   have z := nameOk_cell (hall _ hm)
   exact ⟨.inl z.1, ce y k' hm, z.2.2⟩
 ·show ((namesAt s.heap.objs.size xs).map (·.1)).Nodup
  unfold namesAt
  rw [List.map_map]; exact hnd
 ·have := O.depth
  show Φ.A.depth + 1 + 8 * n + 8 < _
  omega
 ·have := O.units
  show Φ.A.units + 3 + 100 * n + 100 < _
  omega
 ·intro i y k v hn' hl
  obtain ⟨k', e1, e2⟩ := mem_names hn'
  have hm := List.mem_of_getElem? e1
  have hl' : bindA y ab none = some v := by
   unfold locA at hl
   rw [List.getElem?_map, e1] at hl
   exact Option.some.inj hl
  cases k' with
  | none =>
   subst e2
   obtain ⟨X, e3, e4⟩ := bindL_rel (k := (callEnvC fd s.heap.objs.size f).kindOf) (m := fun _ => none) (d := none) (nameOk_local (hall _ hm)) hb (fun _ e => by cases e) v hl'
   exact ⟨X, e3, e4.mono pk fun _ _ h => h⟩
  | some k' =>
   subst e2
   have z := nameOk_cell (hall _ hm)
   obtain ⟨X, e3, e4⟩ := bindC_rel (k := (callEnvC fd s.heap.objs.size f).kindOf) (m := fun _ => none) (d := none) (by show fd.scope.names.lookup y ≠ _; rw [z.1]; decide) hb (fun _ e => by cases e) v hl'
   exact ⟨X, show h'.IsCell _ (some X) from e3 ▸ x.cell _ _ (ce y k' hm), e4.mono pk fun _ _ h => h⟩
 ·exact ⟨S.hp.1, fun i c o h1 h2 => (S.hp.2 i c o h1 h2).mono (fun a _ o h => hkeep a o h) pk fun _ _ h => h⟩
 ·unfold Fx.M
  rw [List.nodup_cons]
  refine ⟨fun hm => ?_, ?_⟩
  ·rcases List.mem_append.mp hm with h | h
   ·exact absurd (cs _ h).1 (Nat.lt_irrefl _)
   ·rcases List.mem_append.mp h with h | h
    ·exact S.fresh (mem_M_mut h)
    ·exact S.fresh (mem_M_T' h)
  ·rw [List.nodup_append]
   refine ⟨cellsNodup x.apart ce hnd, ?_, fun a ha b hb' e => ?_⟩
   ·rw [List.nodup_append]
    exact ⟨p7, S.ndT', fun a ha b hb' e => notT' S a ha (e ▸ hb')⟩
   ·subst e
    have q := (cs _ ha).1
    rcases List.mem_append.mp hb' with h | h
    ·exact absurd (Nat.lt_trans (S.lt a (mem_M_mut h)) q) (Nat.lt_irrefl _)
    ·exact absurd (Nat.lt_trans (S.lt a (mem_M_T' h)) q) (Nat.lt_irrefl _)
 ·intro a ha
  show (gOf Φ s ρ).get? a = none
  have up : s.heap.objs.size ≤ a → (gOf Φ s ρ).get? a = none := fun hle => by
   cases q : (gOf Φ s ρ).get? a with
   | none => rfl
   | some o => exact absurd (Heap.lt_size (gs _ _ q)) (Nat.not_lt.mpr hle)
  unfold Fx.M at ha
  rcases List.mem_cons.mp ha with h | h
  ·exact up (Nat.le_of_eq h.symm)
  ·rcases List.mem_append.mp h with h | h
   ·exact up (Nat.le_of_lt (cs _ h).1)
   ·exact hideAll_none _ h
 ·intro a ha
  refine mem_M_cases ha (fun h => ?_) (fun h => ?_) (fun h => ?_) fun h => ?_
  ·exact h ▸ klt
  ·obtain ⟨v, o, e, _⟩ := (cs _ h).2
   exact Heap.lt_size e
  ·exact Nat.lt_trans (S.lt a (mem_M_mut h)) klt
  ·exact Nat.lt_trans (S.lt a (mem_M_T' h)) klt
structure Bnd (W : Wd) (fd : FuncData) (xs : List (Str × Option Nat)) (bind : List V → Option (List (Str × V))) : Prop where
 binds : ∀ args ab, bind args = some ab → ∀ (P : Addr → Obj → Prop) (ρ : List Cell) Vs (s : Shared), W.K.In s.heap → VRs P ρ args Vs → ∃ bs, BindsTo s fd ⟨Vs, []⟩ bs ∧ BVs P ρ ab bs
 names : ∀ args ab, bind args = some ab → ∀ x ∈ ab.map (·.1), x ∈ xs.map (·.1)
noncomputable def bodyF (xs : List (Str × Option Nat)) (bind : List V → Option (List (Str × V))) (B : SF) (args : List V) (H : List AO) : Option (V × List AO) :=
 (bind args).bind fun ab => (B (locA xs ab) H).bind fun r => bodyK r.1 r.2.2
theorem fn_ok {n : Nat} {f : Addr} {fo : Obj} {fd : FuncData} {body : List Stmt} {xs : List (Str × Option Nat)} {bind : List V → Option (List (Str × V))} {B : SF}
  (ho : W.K.lookup f = some fo) (hd : fo.data = .func fd) (hb : fd.body = .stmts body) (hcl : fd.closure = []) (hgl : fd.globals = mainGlobals) (hbi : fd.builtins = builtinsNs) (hcd : codeIn W.K fd.code fd.qualname = true)
  (hco : fd.scope.isCoroutine = false) (hgen : fd.scope.isGenerator = false) (hk : namesOk fd.scope xs = true) (hbind : Bnd W fd xs bind)
  (hbody : ∀ A g L base fr, (fx fd f xs n A g L base fr).Ok W → SX W (fx fd f xs n A g L base fr) (execs body (callEnvC fd L f)) B) :
  FnOk W n (.ref f) (bodyF xs bind B) := fun Φ O hn loc H args v H' Vs ρ s R hf S hv k => by
 unfold bodyF at hf
 refine obp hf fun ab e1 hf => ?_
 refine obp3 hf fun fl loc' H1 e2 hf => ?_
 obtain ⟨m, F, l⟩ := S.m
 have KI : W.K.In s.heap := O.K.keeps F.keep
 obtain ⟨bs, hbs, hb1⟩ := hbind.binds _ _ e1 _ _ _ _ KI hv
 obtain ⟨hkf, hall, hnd⟩ := nameOk_of hk
 refine codeAny_call_function (by have := O.depth; omega) (KI _ _ ho) hd hco hgen hb (codeRec_of KI hcd) (hbs _ _ _ _ ?_)
 rw [hcl, hgl, hbi]
 refine wpAny_newFunctionEnv_cells hkf (fun y hy => ?_) fun env he s' x => ?_
 ·have hm : y.1 ∈ xs.map (·.1) := hbind.names _ _ e1 _ (by rw [← hb1.names]; exact List.mem_map_of_mem hy)
  obtain ⟨⟨z, k⟩, hz, e⟩ := List.mem_map.mp hm
  have e : z = y.1 := e
  cases k with
  | none => exact .inl (e ▸ nameOk_local (hall _ hz))
  | some k =>
   have q := nameOk_cell (hall _ hz)
   refine .inr ⟨e ▸ q.1, ?_⟩
   rw [← e, cellsFrom_at q.2.1]; rfl
 ·have he : env = callEnvC fd s.heap.objs.size f := by rw [he]; unfold callEnvC; rw [hgl, hbi]
  subst he
  obtain ⟨O', S', kp⟩ := SI.enter O S hn hk hgl hbi hb1 x
  refine ⟨(O.T.nolimit.keeps F.keep).keeps kp.k, codeAny_func ?_⟩
  refine hbody _ _ _ _ _ O' _ _ _ _ _ _ _ _ _ e2 S' fun X s2 ρ2 t2 S2 r2 => ?_
  obtain ⟨stp, S3, pm⟩ := SI.leave S kp (Nat.le_refl _) (fun c hc => by
   obtain ⟨y, q, _, rfl⟩ := cellsAt_mem hc
   show s.heap.objs.size ≤ s.heap.objs.size + 1 + q
   omega) rfl rfl rfl t2 S2
  exact r2.body hf (fun v e => k _ _ _ stp (e ▸ S3) (v.monoF pm fun _ _ h => h)) fun X v e => k _ _ _ stp (e ▸ S3) (v.monoF pm fun _ _ h => h)
end
end
end
section
section
noncomputable def CallOk (W : Wd) (n : Nat) (f : Value) (F : List V → List AO → Option (V × List AO)) : Prop :=
 ∀ Φ : Fx, Φ.Ok W → n < Φ.lv → ∀ loc H args v H' Vs ρ s (Q : Value → Shared → Prop) (E : Value → Shared → Prop), F args H = some (v, H') → SI W Φ ρ loc H s → VRs (Φ.P ρ s.heap) ρ args Vs →
  SE.K W Φ ρ loc s Q v H' → wpAny W.M Φ.A (call f Vs) Q E s
theorem FnOk.call {W : Wd} {n : Nat} {f : Value} {F} (h : FnOk W n f F) : CallOk W n f F := fun Φ O hn loc H args v H' Vs ρ s Q E hf S hv k =>
 wpAny_call (h Φ O hn loc H args v H' Vs ρ s _ hf S hv fun X s' ρ' t S' x => k X s' ρ' t S' x)
theorem FnOk.of {W : Wd} {n : Nat} {f : Value} {F G} (h : FnOk W n f F) (e : ∀ a H v H', G a H = some (v, H') → F a H = some (v, H')) : FnOk W n f G := fun Φ O hn loc H args v H' Vs ρ s R hf S hv k =>
 h Φ O hn loc H args v H' Vs ρ s R (e _ _ _ _ hf) S hv k
inductive KeepOk (W : Wd) : Value → Prop where
 | ref {f} : keepIn W.K f = true → KeepOk W f
 | bi (id) : KeepOk W (.builtin id)
 | ty (T) : KeepOk W (.type T)
noncomputable def SN (W : Wd) (Φ : Fx) (e : Expr) (f : Value) : Prop := ∀ loc H ρ s (Q : Value → Shared → Prop) (E : Value → Shared → Prop), SI W Φ ρ loc H s → Q f s → wpAny W.M Φ.A (eval e Φ.env) Q E s
section
variable {W : Wd} {Φ : Fx} {ρ ρ' : List Cell} {loc : Loc} {H H' : List AO} {s s' : Shared}
theorem SI.KI (O : Φ.Ok W) (S : SI W Φ ρ loc H s) : W.K.In s.heap := let ⟨_, F, _⟩ := S.m; O.K.keeps F.keep
theorem sn_global (O : Φ.Ok W) {x : Str} {pos : Pos} {v : Value} (e : nsIn W.K mainGlobals x = some (some v)) (hx : Φ.env.kindOf x = some .globalImplicit) (hd : (x == ("__debug__" : Str)) = false) : SN W Φ (.Name x pos) v := fun loc H ρ s Q E S h => by
 obtain ⟨m, F, _⟩ := S.m
 exact Name_function_global O.kind hx (loadGlobal_global (env := Φ.env) (by rw [O.glob]; exact O.T.g.keeps F.keep) (mg_of O.K O.T.g e) h) hd
theorem sn_builtin (O : Φ.Ok W) {x : Str} {pos : Pos} {v : Value} (e : nsIn W.K mainGlobals x = some none) (hv : bootBuiltins x = some v) (hn : x ≠ "__name__") (hx : Φ.env.kindOf x = some .globalImplicit) (hd : (x == ("__debug__" : Str)) = false) : SN W Φ (.Name x pos) v := fun loc H ρ s Q E S h => by
 obtain ⟨m, F, _⟩ := S.m
 exact Name_function_global O.kind hx (loadGlobal_builtin (env := Φ.env) (by rw [O.glob]; exact O.T.g.keeps F.keep) (mg_none_of O.K O.T.g e) (by rw [O.bi]; exact O.T.b.keeps F.keep) ((O.T.builtins x hn).trans hv) h) hd
theorem callWith_any {pos : Pos} {f : Value} {first : List Value} {args : List (Bool × Sem Value)} {Q : Value → Shared → Prop} {E : Value → Shared → Prop} (hk : KeepOk W f) (hplain : args.any (·.1) = false)
  (h : wpAny W.M Φ.A (evalArgs f true args []) (fun a s₁ => W.K.In s₁.heap ∧ wpAny W.M Φ.A (call f (first ++ a.pos) a.kw) Q E s₁) E s) : wpAny W.M Φ.A (callWith pos f first args []) Q E s := by
 cases hk with
 | ref hk => exact callWith_of (by rw [hplain]; rfl) (keeps_K hk) h
 | bi id => exact callWith_builtin hplain (wpAny_mono h (fun _ _ x => x.2) fun _ _ x => x)
 | ty T => exact PySem.callWith_type hplain (wpAny_mono h (fun _ _ x => x.2) fun _ _ x => x)
theorem evalArgs_nilM {M : Model} {A : Around} {f : Value} {Q : Args → Shared → Prop} {E : Value → Shared → Prop} (h : wpAny M A (spliced []) (fun vs s' => Q ⟨vs, []⟩ s') E s) : wpAny M A (evalArgs f true [] []) Q E s := by
 unfold evalArgs
 show wpAny M A (spliced [] >>= _) Q E s
 refine wpAny_bind (wpAny_mono h (fun vs s' h' => wpAny_bind (wpAny_pure (wpAny_holding ?_))) fun _ _ x => x)
 exact wpAny_bind (wpAny_pure (wpAny_bind (wpAny_pure (wpAny_pure h'))))
inductive Plain (env : Env) (pos : Pos) : List Expr → Prop where
 | nil : Plain env pos []
 | cons {e rest} : starEach (e :: rest) env = (false, eval e env) :: starEach rest env → (backTo pos (starEach rest env)).any (·.1) = false → Plain env pos (e :: rest)
theorem wp_args {pos : Pos} {f : Value} {first : List Value} {es : List Expr} {g : LF} {Q : Value → Shared → Prop} {E : Value → Shared → Prop} {vs : List V} (O : Φ.Ok W) (hk : KeepOk W f) (ha : SL W Φ pos es g) (hp : Plain Φ.env pos es) (hg : g loc H = some (vs, H'))
  (S : SI W Φ ρ loc H s) (h : ∀ Xs s' ρ', Stp Φ ρ ρ' s s' → SI W Φ ρ' loc H' s' → VRs (Φ.P ρ' s'.heap) ρ' vs Xs → wpAny W.M Φ.A (call f (first ++ Xs)) Q E s') : wpAny W.M Φ.A (callWith pos f first (backTo pos (starEach es Φ.env)) []) Q E s := by
 have z := ha _ _ _ _ _ _ (fun Xs s' => W.K.In s'.heap ∧ wpAny W.M Φ.A (call f (first ++ Xs)) Q E s') E hg S fun Xs s' ρ' t S' v => ⟨S'.KI O, h Xs s' ρ' t S' v⟩
 cases hp with
 | nil => exact callWith_any hk rfl (evalArgs_nilM z)
 | cons he hr =>
  rw [he] at z ⊢
  exact callWith_any hk (by show (false || (backTo pos (starEach _ _)).any (·.1)) = false; rw [hr]; rfl) (evalArgs_plain z)
noncomputable def callF (g : LF) (F : List V → List AO → Option (V × List AO)) : EF := fun loc H => (g loc H).bind fun p => F p.1 p.2
theorem se_call {func : Expr} {es : List Expr} {pos : Pos} {f : Value} {g : LF} {F} {n : Nat} (O : Φ.Ok W) (hn : n < Φ.lv) (hf : SN W Φ func f) (hk : KeepOk W f) (ha : SL W Φ pos es g) (hc : CallOk W n f F) (hp : Plain Φ.env pos es)
  (he : eval (.Call func es [] pos) Φ.env = (do callWith pos (← eval func Φ.env) [] (backTo pos (starEach es Φ.env)) (backToKw pos (keywordEach [] Φ.env)))) : SE W Φ (.Call func es [] pos) (callF g F) := fun loc H v H' ρ s Q E hff S k => by
 unfold callF at hff
 refine obp2 hff fun vs H1 e1 e2 => ?_
 exact Call_ (hf _ _ _ _ _ _ S (wp_args O hk ha hp e1 S fun Xs s1 ρ1 t1 S1 v1 => hc Φ O hn _ _ _ _ _ _ _ _ _ _ e2 S1 v1 fun X s2 ρ2 t2 S2' v2 => k X s2 ρ2 (t1.trans t2) S2' v2)) he
end
end
end
section
section
structure Iter (W : Wd) (I : Addr) (wr : List Addr) (P0 : Addr → Obj → Prop) (ρ0 : List Cell) (K : List V → Heap → Prop) (KM : Value → List V → Heap → Prop) (tgt : Expr → Prop) : Prop where
 nf : ∀ xs h, K xs h → ∀ b ∈ wr, ∃ o, h.get? b = some o ∧ ¬ Flat o
 nfM : ∀ X xs h, KM X xs h → ∀ b ∈ wr, ∃ o, h.get? b = some o ∧ ¬ Flat o
 keep : ∀ xs h h', K xs h → (∀ b o, h.get? b = some o → (b ∈ wr ∨ P0 b o) → h'.get? b = some o) → K xs h'
 self : ∀ (A : Around) xs (s : Shared) (Q : Value → Shared → Prop) (E : Value → Shared → Prop), K xs s.heap → Q (.ref I) s → wpAny W.M A (pyIter (.ref I)) Q E s
 step : ∀ A : Around, A.handled = none → ∀ x xs (s : Shared) (Q : Option Value → Shared → Prop) (E : Value → Shared → Prop), K (x :: xs) s.heap →
  (∀ X h' tk, KM X xs h' → (∀ b o, b ∉ wr → s.heap.get? b = some o → h'.get? b = some o) → VR (fun a o => P0 a o ∨ (s.heap.objs.size ≤ a ∧ h'.get? a = some o)) ρ0 x X → Q (some X) { s with heap := h', toks := tk }) → wpAny W.M A (pyNext (.ref I)) Q E s
 done : ∀ A : Around, A.handled = none → ∀ (s : Shared) (Q : Option Value → Shared → Prop) (E : Value → Shared → Prop), K [] s.heap →
  (∀ h' tk, (∀ b o, b ∉ wr → s.heap.get? b = some o → h'.get? b = some o) → Q none { s with heap := h', toks := tk }) → wpAny W.M A (pyNext (.ref I)) Q E s
 go : ∀ (A : Around) target X xs (s : Shared) (Q : Unit → Shared → Prop) (E : Value → Shared → Prop), tgt target → KM X xs s.heap → (∀ h', K xs h' → (∀ b o, b ∉ wr → s.heap.get? b = some o → h'.get? b = some o) → Q () { s with heap := h' }) → wpAny W.M A (letOwnedTupleGo target (.ref I) X) Q E s
theorem Iter.mono {W : Wd} {I : Addr} {wr : List Addr} {P0 P1 : Addr → Obj → Prop} {ρ0 ρ1 : List Cell} {K : List V → Heap → Prop} {KM : Value → List V → Heap → Prop} {tgt : Expr → Prop} (it : Iter W I wr P0 ρ0 K KM tgt) (hp : ∀ a o, P0 a o → P1 a o) (hr : ∀ (i : Nat) c, ρ0[i]? = some c → ρ1[i]? = some c) :
  Iter W I wr P1 ρ1 K KM tgt where
 nf := it.nf
 nfM := it.nfM
 keep := fun xs h h' k e => it.keep xs h h' k fun b o g q => e b o g (q.imp id (hp b o))
 self := it.self
 step := fun A hA x xs s Q E k h => it.step A hA x xs s Q E k fun X h' tk km hk v => h X h' tk km hk (v.mono (fun a o z => z.imp (hp a o) id) hr)
 done := it.done
 go := it.go
theorem go_other {M : Model} {A : Around} {target : Expr} {I : Addr} {X : Value} {s : Shared} {Q : Unit → Shared → Prop} {E : Value → Shared → Prop} {o : Obj} {n : String} (ho : s.heap.get? I = some o) (hc : o.cls = .type n)
  (hn : (["enumerate", "zip", "dict_itemiterator", "dict_reverseitemiterator", "odict_iterator", "itertools.zip_longest", "itertools.pairwise"].contains n) = false) (h : Q () s) : wpAny M A (letOwnedTupleGo target (.ref I) X) Q E s := by
 have main : wpAny M A (do
   let (.ref r, .ref a) := ((.ref I : Value), X) | return
   let o ← load r
   match o.cls, o.data with
   | .type n, .fields vs =>
    if ["enumerate", "zip", "dict_itemiterator", "dict_reverseitemiterator", "odict_iterator", "itertools.zip_longest", "itertools.pairwise"].contains n && vs[0]? == some (rawInt a) then
     rule "for.unpacks-the-owned-tuple"
     updateField r 0 .none
   | _, _ => pure ()) Q E s := by
  cases X with
  | ref a =>
   refine wpAny_bind (wpAny_load ho ?_)
   rw [hc]
   cases o.data <;> first
    | exact wpAny_pure h
    | (simp only [hn, Bool.false_and, Bool.false_eq_true, if_false]; exact wpAny_pure h)
  | _ => exact wpAny_pure h
 unfold letOwnedTupleGo
 cases target <;> first
  | exact main
  | exact wpAny_pure h
section
variable {W : Wd} {P0 : Addr → Obj → Prop} {ρ0 : List Cell}
noncomputable def WK (fp wr : List Addr) (P0 : Addr → Obj → Prop) (St : Nat → Heap → Prop) (xs0 xs : List V) (h : Heap) : Prop := ∃ i, i ≤ xs0.length ∧ xs = xs0.drop i ∧ St i h ∧ ∀ b ∈ fp, b ∉ wr → ∃ o, h.get? b = some o ∧ P0 b o
theorem Iter.ofWalks {I : Addr} {fp wr : List Addr} {n : Nat} {P : Nat → Value → Prop} {St : Nat → Heap → Prop} {xs0 : List V} (hW : ∀ A : Around, A.handled = none → Walks W.prog W.w A I fp wr n P St) (hS : ∀ (A : Around) (i : Nat) (s : Shared) (Q : Value → Shared → Prop) (E : Value → Shared → Prop), St i s.heap → Q (.ref I) s → wpAny W.M A (pyIter (.ref I)) Q E s) (hn : xs0.length = n) (hI : I ∈ wr)
  (hv : ∀ i X x, P i X → xs0[i]? = some x → VR P0 ρ0 x X) (hc : ∀ i h, St i h → ∀ b ∈ wr, ∃ o, h.get? b = some o ∧ ∃ c, o.cls = .type c ∧ c ∉ ["tuple", "list", "range", "enumerate", "zip", "dict_itemiterator", "dict_reverseitemiterator", "odict_iterator", "itertools.zip_longest", "itertools.pairwise"]) :
  Iter W I wr P0 ρ0 (WK fp wr P0 St xs0) (fun _ => WK fp wr P0 St xs0) (fun _ => True) where
 nf := fun xs h ⟨i, _, _, st, _⟩ b hb => by
  obtain ⟨o, ho, c, hc1, hc2⟩ := hc i h st b hb
  refine ⟨o, ho, fun fl => hc2 ?_⟩
  rcases fl.2 with e | e | e <;> (rw [hc1] at e; cases e; simp)
 nfM := fun _ xs h ⟨i, _, _, st, _⟩ b hb => by
  obtain ⟨o, ho, c, hc1, hc2⟩ := hc i h st b hb
  refine ⟨o, ho, fun fl => hc2 ?_⟩
  rcases fl.2 with e | e | e <;> (rw [hc1] at e; cases e; simp)
 keep := fun xs h h' ⟨i, hi, hx, st, hf⟩ hk => by
  refine ⟨i, hi, hx, (hW callerA rfl).frame i h h' st fun b hb o e => ?_, fun b hb hw => ?_⟩
  ·by_cases hw : b ∈ wr
   ·exact hk b o e (.inl hw)
   ·obtain ⟨o', e', p⟩ := hf b hb hw
    rw [e'] at e; cases e
    exact hk b _ e' (.inr p)
  ·obtain ⟨o', e', p⟩ := hf b hb hw
   exact ⟨o', hk b _ e' (.inr p), p⟩
 self := fun A xs s Q E ⟨i, hi, hx, st, hf⟩ h => hS A i s Q E st h
 step := fun A hA x xs s Q E ⟨i, hi, hx, st, hf⟩ h => by
  have hlt : i < xs0.length := by
   rcases Nat.lt_or_ge i xs0.length with h | h
   ·exact h
   ·rw [List.drop_eq_nil_of_le h] at hx; cases hx
  have e1 : xs0[i]? = some x ∧ xs = xs0.drop (i + 1) := by
   rw [List.drop_eq_getElem_cons hlt] at hx
   cases hx
   exact ⟨List.getElem?_eq_getElem hlt, rfl⟩
  refine (hW A hA).item i s Q E (hn ▸ hlt) st fun X h' tk p st' hk => ?_
  exact h X h' tk ⟨i + 1, hlt, e1.2, st', fun b hb hw => let ⟨o, e, p⟩ := hf b hb hw; ⟨o, hk b o hw e, p⟩⟩ hk ((hv i X x p e1.1).mono (fun _ _ z => .inl z) fun _ _ z => z)
 done := fun A hA s Q E ⟨i, hi, hx, st, hf⟩ h => by
  have : i = n := by
   have := congrArg List.length hx
   simp at this
   omega
  subst this
  exact (hW A hA).done s Q E st h
 go := fun A target X xs s Q E _ ⟨i, hi, hx, st, hf⟩ h => by
  obtain ⟨o, ho, c, hc1, hc2⟩ := hc i s.heap st I hI
  refine go_other ho hc1 (by simp at hc2 ⊢; exact ⟨hc2.2.2.2.1, hc2.2.2.2.2.1, hc2.2.2.2.2.2.1, hc2.2.2.2.2.2.2.1, hc2.2.2.2.2.2.2.2.1, hc2.2.2.2.2.2.2.2.2.1, hc2.2.2.2.2.2.2.2.2.2⟩) (h s.heap ⟨i, hi, hx, st, hf⟩ fun _ _ _ e => e)
end
end
end
section
section
noncomputable def SrcK (W : Wd) (P0 : Addr → Obj → Prop) (ρ : List Cell) (s : Shared) (tgt : Expr → Prop) (xs : List V) (Q : Value → Shared → Prop) : Prop :=
 ∀ I wr K KM s2, Kp s s2 → (∀ b ∈ wr, s.heap.objs.size ≤ b) → (∀ b ∈ wr, b < s2.heap.objs.size) → Iter W I wr P0 ρ K KM tgt → K xs s2.heap → Q (.ref I) s2
theorem SrcK.of_any {W : Wd} {P0 : Addr → Obj → Prop} {ρ : List Cell} {s : Shared} {tgt : Expr → Prop} {xs : List V} {Q : Value → Shared → Prop} (h : SrcK W P0 ρ s tgt xs Q) : ∀ I wr K s2, Kp s s2 → (∀ b ∈ wr, s.heap.objs.size ≤ b) → (∀ b ∈ wr, b < s2.heap.objs.size) → Iter W I wr P0 ρ K (fun _ => K) (fun _ => True) → K xs s2.heap → Q (.ref I) s2 :=
 fun I wr K s2 h1 h2 h3 it hk => h I wr K (fun _ => K) s2 h1 h2 h3 ⟨it.nf, it.nfM, it.keep, it.self, it.step, it.done, fun A t X ys s Q E _ => it.go A t X ys s Q E trivial⟩ hk
section
variable {W : Wd} {Φ : Fx} {ρ : List Cell} {loc : Loc} {H : List AO} {s : Shared} {tgt : Expr → Prop} {Q : Value → Shared → Prop} {E : Value → Shared → Prop} {A : Around} {P0 : Addr → Obj → Prop}
theorem src_list {a : Addr} {vs : List Value} {n : Nat} {xs : List V} (hp : ∀ a o, P0 a o → s.heap.get? a = some o) (ha : P0 a (lstO vs n)) (hs : VRs P0 ρ xs vs) (k : SrcK W P0 ρ s tgt xs Q) : wpAny W.M A (pyIter (.ref a)) Q E s := by
 have lt := Heap.lt_size (hp _ _ ha)
 refine wpAny_pyIter_list (isList_of (hp _ _ ha)) (k.of_any s.heap.objs.size [s.heap.objs.size] _ _ (Kp.pushO s _) (fun b hb => by simp at hb; subst hb; exact Nat.le_refl _) (fun b hb => by simp at hb; subst hb; rw [Heap.size_push]; exact Nat.lt_succ_self _)
  (Iter.ofWalks (n := vs.toArray.size) (fun A hA => Walks.list hA s.heap.objs.size a (Nat.ne_of_lt lt) vs.toArray) (fun A i s Q E st h => wpAny_pyIter_listiter st.1 h) (by simpa using hs.length) (by simp) (fun i X x h1 h2 => ?_) (fun i h st b hb => ?_)) ?_)
 ·obtain ⟨v, e1, e2⟩ := hs.get h2
  have : v = X := by simp at h1; rw [h1] at e1; exact (Option.some.inj e1).symm
  exact this ▸ e2
 ·simp at hb; subst hb
  obtain ⟨⟨o, ho, hc, _⟩, _⟩ := st
  exact ⟨o, ho, _, hc, by decide⟩
 ·refine ⟨0, Nat.zero_le _, rfl, ⟨⟨_, Heap.get?_push_size _ rfl, rfl, rfl⟩, ⟨_, Heap.get?_push_of_some _ (hp _ _ ha), rfl, n, rfl⟩⟩, fun b hb hw => ?_⟩
  simp at hb hw
  rcases hb with rfl | rfl
  ·exact absurd rfl hw
  ·exact ⟨_, Heap.get?_push_of_some _ (hp _ _ ha), ha⟩
theorem src_tup {a : Addr} {vs : List Value} {xs : List V} (hp : ∀ a o, P0 a o → s.heap.get? a = some o) (ha : P0 a (tupO vs)) (hs : VRs P0 ρ xs vs) (k : SrcK W P0 ρ s tgt xs Q) : wpAny W.M A (pyIter (.ref a)) Q E s := by
 have lt := Heap.lt_size (hp _ _ ha)
 refine wpAny_pyIter_tuple (items := vs.toArray) ⟨_, hp _ _ ha, rfl, _, rfl⟩ (k.of_any s.heap.objs.size [s.heap.objs.size] _ _ (Kp.pushO s _) (fun b hb => by simp at hb; subst hb; exact Nat.le_refl _) (fun b hb => by simp at hb; subst hb; rw [Heap.size_push]; exact Nat.lt_succ_self _)
  (Iter.ofWalks (n := vs.toArray.size) (fun A hA => Walks.tuple hA s.heap.objs.size a (Nat.ne_of_lt lt) vs.toArray) (fun A i s Q E st h => wpAny_pyIter_tupleiter st.1 h) (by simpa using hs.length) (by simp) (fun i X x h1 h2 => ?_) (fun i h st b hb => ?_)) ?_)
 ·obtain ⟨v, e1, e2⟩ := hs.get h2
  have : v = X := by simp at h1; rw [h1] at e1; exact (Option.some.inj e1).symm
  exact this ▸ e2
 ·simp at hb; subst hb
  obtain ⟨⟨o, ho, hc, _⟩, _⟩ := st
  exact ⟨o, ho, _, hc, by decide⟩
 ·refine ⟨0, Nat.zero_le _, rfl, ⟨⟨_, Heap.get?_push_size _ rfl, rfl, rfl⟩, ⟨_, Heap.get?_push_of_some _ (hp _ _ ha), rfl, _, rfl⟩⟩, fun b hb hw => ?_⟩
  simp at hb hw
  rcases hb with rfl | rfl
  ·exact absurd rfl hw
  ·exact ⟨_, Heap.get?_push_of_some _ (hp _ _ ha), ha⟩
noncomputable def charsOf (x : Str) : List V := x.cps.toList.map fun c => V.str ⟨#[c]⟩
theorem src_str {x : Str} {t : Tok} (k : SrcK W P0 ρ s tgt (charsOf x) Q) : wpAny W.M A (pyIter (.str x t)) Q E s := by
 have hl : (charsOf x).length = x.cps.size := by simp [charsOf]
 have hv : ∀ i X v, SignAt x i X → (charsOf x)[i]? = some v → VR P0 ρ v X := fun i X v h1 h2 => by
  obtain ⟨c, u, e1, rfl⟩ := h1
  simp [charsOf, e1] at h2
  subst h2
  exact .str _ _
 cases ha : x.cps.all (· < 128)
 ·refine wpAny_pyIter_wide ha (k.of_any s.heap.objs.size [s.heap.objs.size] _ _ (Kp.pushO s _) (fun b hb => by simp at hb; subst hb; exact Nat.le_refl _) (fun b hb => by simp at hb; subst hb; rw [Heap.size_push]; exact Nat.lt_succ_self _)
   (Iter.ofWalks (fun A hA => Walks.strWide hA _ x t) (fun A i s Q E st h => wpAny_pyIter_striter_wide st h) hl (by simp) hv (fun i h st b hb => ?_)) ⟨0, Nat.zero_le _, rfl, ⟨_, Heap.get?_push_size _ rfl, rfl, rfl⟩, fun b hb hw => absurd hb hw⟩)
  simp at hb; subst hb
  obtain ⟨o, ho, hc, _⟩ := st
  exact ⟨o, ho, _, hc, by decide⟩
 ·refine wpAny_pyIter_ascii ha (k.of_any s.heap.objs.size [s.heap.objs.size] _ _ (Kp.pushO s _) (fun b hb => by simp at hb; subst hb; exact Nat.le_refl _) (fun b hb => by simp at hb; subst hb; rw [Heap.size_push]; exact Nat.lt_succ_self _)
   (Iter.ofWalks (fun A hA => Walks.strAscii hA _ x t) (fun A i s Q E st h => wpAny_pyIter_striter_ascii st h) hl (by simp) hv (fun i h st b hb => ?_)) ⟨0, Nat.zero_le _, rfl, ⟨_, Heap.get?_push_size _ rfl, rfl, rfl⟩, fun b hb hw => absurd hb hw⟩)
  simp at hb; subst hb
  obtain ⟨o, ho, hc, _⟩ := st
  exact ⟨o, ho, _, hc, by decide⟩
noncomputable def rngOf (a c : Int) (n : Nat) : List V := (List.range n).map fun (i : Nat) => V.int (a + i * c)
theorem src_range {r : Addr} {a b c : Int} {t u v : Tok} {n : Nat} (hr : IsRange s.heap r a b c t u v) (hn : Builtin.Range.rangeSize a b c = (n : Int)) (hsmall : Builtin.Range.small a b c = true) (k : SrcK W P0 ρ s tgt (rngOf a c n) Q) : wpAny W.M A (pyIter (.ref r)) Q E s := by
 refine wpAny_pyIter_range hr hsmall (k.of_any s.heap.objs.size [s.heap.objs.size] _ _ (Kp.pushO s _) (fun b hb => by simp at hb; subst hb; exact Nat.le_refl _) (fun b hb => by simp at hb; subst hb; rw [Heap.size_push]; exact Nat.lt_succ_self _)
  (Iter.ofWalks (fun A hA => Walks.range hA _ a c n) (fun A i s Q E st h => wpAny_pyIter_rangeiter st h) (by simp [rngOf]) (by simp) (fun i X x h1 h2 => ?_) (fun i h st b hb => ?_)) ⟨0, Nat.zero_le _, rfl, ?_, fun b hb hw => absurd hb hw⟩)
 ·obtain ⟨t, rfl⟩ := h1
  unfold rngOf at h2
  rw [List.getElem?_map] at h2
  refine omp h2 fun j hj q2 => ?_; subst q2
  obtain ⟨_, e⟩ := List.getElem?_eq_some_iff.mp hj
  simp only [List.getElem_range] at e
  subst e
  exact .int _ _
 ·simp at hb; subst hb
  exact ⟨_, st, _, rfl, by decide⟩
 ·rw [hn]
  have e : a + ((0 : Nat) : Int) * c = a := by simp
  have e2 : (n : Int) - ((0 : Nat) : Int) = n := by simp
  show Heap.get? _ _ = some _
  rw [e, e2]
  exact Heap.get?_push_size _ rfl
theorem src_rev {a : Addr} {vs : List Value} {n : Nat} {xs : List V} (hp : ∀ a o, P0 a o → s.heap.get? a = some o) (ha : P0 a (lstO vs n)) (hs : VRs P0 ρ xs vs) (k : SrcK W P0 ρ s tgt xs.reverse Q) :
  wpAny W.M A (call (.type "reversed") [.ref a]) (fun X s1 => wpAny W.M A (pyIter X) Q E s1) E s := by
 have lt := Heap.lt_size (hp _ _ ha)
 refine call_reversed_list (isList_of (hp _ _ ha)) ?_
 have hlen : xs.length = vs.length := hs.length
 have IT := Iter.ofWalks (W := W) (P0 := P0) (ρ0 := ρ) (n := vs.toArray.size) (xs0 := xs.reverse) (fun A hA => Walks.listRev hA s.heap.objs.size a (Nat.ne_of_lt lt) vs.toArray) (fun A i s Q E st h => wpAny_pyIter_revIter st.2.1 h) (by simp [hlen]) (by simp) (fun i X x h1 h2 => by
  have hi : i < xs.length := by
   have := (List.getElem?_eq_some_iff.mp h2).1
   simpa using this
  rw [List.getElem?_reverse hi] at h2
  obtain ⟨v, e1, e2⟩ := hs.get h2
  have : v = X := by
   simp at h1
   rw [hlen] at e1
   rw [h1] at e1; exact (Option.some.inj e1).symm
  exact this ▸ e2) (fun i h st b hb => by
  simp at hb; subst hb
  obtain ⟨_, ⟨o, ho, hc, _⟩, _⟩ := st
  exact ⟨o, ho, _, hc, by decide⟩)
 have st : ({ s with heap := s.heap.push (revObj a ((vs.toArray.size : Int) - 1)) } : Shared).heap.IsRevIter s.heap.objs.size a ((vs.toArray.size : Int) - 1) := ⟨_, Heap.get?_push_size _ rfl, rfl, rfl⟩
 refine wpAny_pyIter_revIter st (k.of_any _ _ _ _ (Kp.pushO s _) (fun b hb => by simp at hb; subst hb; exact Nat.le_refl _) (fun b hb => by simp at hb; subst hb; rw [Heap.size_push]; exact Nat.lt_succ_self _) IT ⟨0, Nat.zero_le _, rfl, ⟨Nat.zero_le _, ?_, ⟨_, Heap.get?_push_of_some _ (hp _ _ ha), rfl, n, rfl⟩⟩, fun b hb hw => ?_⟩)
 ·have e : (vs.toArray.size : Int) - 1 - ((0 : Nat) : Int) = (vs.toArray.size : Int) - 1 := by simp
  rw [e]; exact st
 ·simp at hb hw
  rcases hb with rfl | rfl
  ·exact absurd rfl hw
  ·exact ⟨_, Heap.get?_push_of_some _ (hp _ _ ha), ha⟩
end
end
end
section
section
noncomputable abbrev QF := Loc → List AO → Option (List V × List AO)
noncomputable def SQ (W : Wd) (Φ : Fx) (e : Expr) (tgt : Expr → Prop) (f : QF) : Prop := ∀ loc H xs H' ρ s (Q : Value → Shared → Prop) (E : Value → Shared → Prop), f loc H = some (xs, H') → SI W Φ ρ loc H s →
 (∀ s1 ρ', Stp Φ ρ ρ' s s1 → SI W Φ ρ' loc H' s1 → SrcK W (Φ.P ρ' s1.heap) ρ' s1 tgt xs Q) → wpAny W.M Φ.A (eval e Φ.env) (fun X s1 => wpAny W.M Φ.A (pyIter X) Q E s1) E s
noncomputable def itemsV (v : V) : Option (List V) := V.casesOn v none (fun _ => none) (fun _ => none) (fun x => some (charsOf x)) some some (fun _ => none) (fun a n => if small a && small (a + n) then some (rngOf a 1 n) else none) (fun _ => none) fun _ => none
section
variable {W : Wd} {Φ : Fx} {ρ : List Cell} {loc : Loc} {H : List AO} {s : Shared} {tgt : Expr → Prop}
noncomputable def valQ (f : EF) : QF := fun loc H => (f loc H).bind fun p => (itemsV p.1).map (·, p.2)
theorem small2 {a b : Int} (h : (small a && small b) = true) : (-(2 ^ 40) < a ∧ a < 2 ^ 40) ∧ -(2 ^ 40) < b ∧ b < 2 ^ 40 := (Bool.and_eq_true_iff.mp h).imp small_is small_is
theorem src_val {P0 : Addr → Obj → Prop} (hp : ∀ a o, P0 a o → s.heap.get? a = some o) {v : V} {xs : List V} {X : Value} {Q : Value → Shared → Prop} {E : Value → Shared → Prop} {A : Around} (e : itemsV v = some xs) (r : VR P0 ρ v X) (k : SrcK W P0 ρ s tgt xs Q) : wpAny W.M A (pyIter X) Q E s :=
 VR.casesOn (motive_1 := fun v X _ => itemsV v = some xs → wpAny W.M A (pyIter X) Q E s) r nn (fun _ => nn) (fun _ _ => nn) (fun x t e => src_str (Option.some.inj e ▸ k)) (fun _ => nn) (fun _ _ => nn) (fun ha hs e => src_tup hp ha (Option.some.inj e ▸ hs) k) (fun ha hs e => src_list hp ha (Option.some.inj e ▸ hs) k) (fun _ => nn)
  (fun ha e => ifs e fun q e => have q := small2 q; src_range (hp _ _ ha) (by rw [rangeSize_nat]; omega) (small_one (by omega) (by omega) (by omega) (by omega)) (e ▸ k)) e
theorem sq_val {e : Expr} {f : EF} (he : SE W Φ e f) : SQ W Φ e tgt (valQ f) := fun loc H xs H' ρ s Q E hf S k => by
 unfold valQ at hf
 refine obp2 hf fun v H1 e1 hf => ?_
 refine omp hf fun ys e2 hf => ?_
 cases hf
 exact he _ _ _ _ _ _ _ _ e1 S fun X s1 ρ1 t1 S1 v1 => src_val (fun _ _ z => z.1) e2 v1 (k _ _ t1 S1)
noncomputable def rngI (l : List Int) : Option (List V) := List.casesOn l none fun a l => List.casesOn l (if small a && small a then some (rngOf 0 1 a.toNat) else none) fun b l => List.casesOn l (if small a && small b then some (rngOf a 1 (b - a).toNat) else none)
 fun c l => List.casesOn l (if (small a && small b) = true ∧ c = -1 then some (rngOf a (-1) (a - b).toNat) else none) fun _ _ => none
noncomputable def rngV (vs : List V) : Option (List V) := (allM V.int? vs).bind rngI
noncomputable def IntsR (is : List Int) : List Value → Prop := List.rec (motive := fun _ => List Value → Prop) (fun X => X = []) (fun i _ ih X => ∃ t Y, X = .int i t :: Y ∧ ih Y) is
theorem VRs.ints {P : Addr → Obj → Prop} {vs : List V} {Xs : List Value} (r : VRs P ρ vs Xs) : ∀ {is}, allM V.int? vs = some is → IntsR is Xs :=
 r.ind (m := fun vs Xs => ∀ {is}, allM V.int? vs = some is → IntsR is Xs) (fun {_} e => Option.some.inj e ▸ rfl) fun {_ _ _ _} a _ ih {_} e => obp e fun d e1 e => omp e fun ds e2 q => q ▸ (a.isInt e1).imp fun t z => ⟨_, z ▸ rfl, ih e2⟩
noncomputable def rngQ (g : LF) : QF := fun loc H => (g loc H).bind fun p => (rngV p.1).map (·, p.2)
theorem rangeSize_neg (a b : Int) : Builtin.Range.rangeSize a b (-1) = ((a - b).toNat : Int) := by
 unfold Builtin.Range.rangeSize
 simp only [show ¬ ((-1 : Int) > 0) by decide, if_false]
 split <;> (first | omega | (simp; omega))
theorem small_neg {a b : Int} (ha : -(2 ^ 60) ≤ a) (ha' : a < 2 ^ 60) (hb : -(2 ^ 60) ≤ b) (hb' : b < 2 ^ 60) : Builtin.Range.small a b (-1) = true := by
 unfold Builtin.Range.small
 rw [rangeSize_neg]
 simp only [Builtin.Range.rangeFitsLong, Bool.and_eq_true, Bool.or_eq_true, decide_eq_true_eq, beq_iff_eq]
 have l : ∀ {x : Int}, -(2 ^ 60) ≤ x → -(2 ^ 63) ≤ x := fun h => Int.le_trans (by decide) h
 have u : ∀ {x : Int}, x < 2 ^ 60 → x < 2 ^ 63 := fun h => Int.lt_trans h (by decide)
 refine ⟨⟨⟨⟨⟨l ha, u ha'⟩, l hb, u hb'⟩, by decide, by decide⟩, Int.le_trans (by decide) (Int.natCast_nonneg _), ?_⟩, .inr ?_⟩
 ·have h : (a - b).toNat < 2 ^ 63 := (Int.toNat_lt' (n := 2 ^ 63) (by decide)).mpr (Int.lt_of_le_of_lt (Int.sub_le_sub (Int.le_of_lt ha') hb) (by decide))
  exact Int.ofNat_lt.mpr h
 ·rw [if_neg (by decide), show (-1 + 1 : Int) = 0 from rfl, Int.add_zero, decide_eq_true (l hb), decide_eq_true (u hb')]
  rfl
theorem src_rangeCall {P0 : Addr → Obj → Prop} {P1 : Heap → Addr → Obj → Prop} {vs : List V} {xs : List V} {Xs : List Value} {Q : Value → Shared → Prop} {E : Value → Shared → Prop} {A : Around} (e : rngV vs = some xs) (r : VRs P0 ρ vs Xs)
  (k : ∀ s1, Kp s s1 → SrcK W (P1 s1.heap) ρ s1 tgt xs Q) : wpAny W.M A (call (.type "range") Xs) (fun X s1 => wpAny W.M A (pyIter X) Q E s1) E s := obp e fun is e1 e => by
 have z := r.ints e1
 cases is with
 | nil => cases e
 | cons a is =>
  obtain ⟨t1, Y, rfl, z⟩ := z
  cases is with
  | nil =>
   cases (show Y = [] from z)
   exact ifs e fun q e => have q := small_is (Bool.and_eq_true_iff.mp q).1; call_range_1 (src_range (IsRange.new ..) (by rw [rangeSize_nat, Int.sub_zero]) (small_one (by decide) (by decide) (by omega) (by omega)) (e ▸ k _ Kp.push))
  | cons b is =>
   obtain ⟨t2, Y, rfl, z⟩ := z
   cases is with
   | nil =>
    cases (show Y = [] from z)
    exact ifs e fun q e => have q := small2 q; call_range_2 (src_range (IsRange.new ..) (by rw [rangeSize_nat]) (small_one (by omega) (by omega) (by omega) (by omega)) (e ▸ k _ Kp.push))
   | cons c is =>
    obtain ⟨t3, Y, rfl, z⟩ := z
    cases is with
    | nil =>
     cases (show Y = [] from z)
     exact ifs e fun q e5 => by
      have q1 := small2 q.1
      cases q.2
      exact call_range_3 (by decide) (src_range (IsRange.new ..) (by rw [rangeSize_neg]) (small_neg (by omega) (by omega) (by omega) (by omega)) (e5 ▸ k _ Kp.push)) (.inl (PyProof.noPylong_small (by decide)))
    | cons => cases e
theorem sq_range (O : Φ.Ok W) {func : Expr} {es : List Expr} {pos : Pos} {g : LF} (hf : SN W Φ func (.type "range")) (ha : SL W Φ pos es g) (hp : Plain Φ.env pos es)
  (he : eval (.Call func es [] pos) Φ.env = (do callWith pos (← eval func Φ.env) [] (backTo pos (starEach es Φ.env)) (backToKw pos (keywordEach [] Φ.env)))) : SQ W Φ (.Call func es [] pos) tgt (rngQ g) := fun loc H xs H' ρ s Q E hff S k => by
 unfold rngQ at hff
 refine obp2 hff fun vs H1 e1 hff => ?_
 refine omp hff fun ys e2 hff => ?_
 cases hff
 exact Call_ (hf _ _ _ _ _ _ S (wp_args O (.ty _) ha hp e1 S fun Xs s1 ρ1 t1 S1 v1 => src_rangeCall (P1 := Φ.P ρ1) (tgt := tgt) e2 v1 fun s2 k2 => k s2 ρ1 (t1.trans k2.stp) (S1.kept k2))) he
noncomputable def revQ (g : LF) : QF := fun loc H => (g loc H).bind fun p => ((one? p.1).bind V.lst?).map fun xs => (xs.reverse, p.2)
theorem sq_rev (O : Φ.Ok W) {func : Expr} {es : List Expr} {pos : Pos} {g : LF} (hf : SN W Φ func (.type "reversed")) (ha : SL W Φ pos es g) (hp : Plain Φ.env pos es)
  (he : eval (.Call func es [] pos) Φ.env = (do callWith pos (← eval func Φ.env) [] (backTo pos (starEach es Φ.env)) (backToKw pos (keywordEach [] Φ.env)))) : SQ W Φ (.Call func es [] pos) tgt (revQ g) := fun loc H xs H' ρ s Q E hff S k => by
 refine obp2 hff fun vs H1 e1 hff => omp hff fun ys e2 q => obp e2 fun v e2 e3 => ?_
 cases q
 refine Call_ (hf _ _ _ _ _ _ S (wp_args O (.ty _) ha hp e1 S fun Xs s1 ρ1 t1 S1 v1 => ?_)) he
 obtain ⟨X, rfl, r1⟩ := v1.one e2
 obtain ⟨a, vs, n, rfl, pa, pv⟩ := r1.isLst e3
 exact src_rev (fun _ _ z => z.1) pa pv (k _ _ t1 S1)
theorem mem_cellAs {c : Cell} {a : Addr} (h : a ∈ cellAs c) : a = c.1 ∨ c.2 = some a := (List.mem_cons.mp h).imp id fun h => Option.mem_toList.mp h
theorem OR.has {w : World} {h : Heap} {P : Addr → Obj → Prop} {c : Cell} {o : AO} (z : OR w h P ρ c o) {a : Addr} (ha : a ∈ cellAs c) : ∃ o, h.get? a = some o := by
 have two : (∃ o, h.get? c.1 = some o) → (∀ d, c.2 = some d → ∃ o, h.get? d = some o) → ∃ o, h.get? a = some o := fun h1 h2 => (mem_cellAs ha).elim (fun e => e ▸ h1) fun e => h2 a e
 exact AO.casesOn (motive := fun o => OR w h P ρ c o → ∃ o, h.get? a = some o) o (fun _ z => two (z.2.elim fun _ z => z.elim fun _ z => ⟨_, z.1⟩) fun d e => nomatch z.1.symm.trans e) (fun C sq fs =>
  Option.casesOn (motive := fun sq => OR w h P ρ c (.inst C sq fs) → ∃ o, h.get? a = some o) sq (fun z => z.elim fun d z => z.elim fun es z => z.elim fun n z => two ⟨_, z.2.1⟩ fun d' e => Option.some.inj (z.1.symm.trans e) ▸ ⟨_, z.2.2.1⟩)
   fun _ z => z.elim fun d z => z.elim fun es z => z.elim fun n z => z.elim fun _ z => z.elim fun _ z => two ⟨_, z.2.1⟩ fun d' e => Option.some.inj (z.1.symm.trans e) ▸ ⟨_, z.2.2.2.1⟩) z
theorem mem_TB {a : Addr} (h : a ∈ TB) : ∃ q ∈ TBs, a = q.2 :=
 (List.mem_cons.mp h).elim (fun e => ⟨_, .head _, e⟩) fun h => ⟨_, .tail _ (.head _), List.mem_singleton.mp h⟩
theorem SI.has (S : SI W Φ ρ loc H s) {a : Addr} (ha : a ∈ Φ.M ρ) : ∃ o, s.heap.get? a = some o := by
 refine mem_M_cases ha (fun h => ?_) (fun h => (S.cl a h).elim fun v z => z.imp fun _ z => z.1) (fun h => ?_) fun h => (List.mem_append.mp h).elim (fun h => ?_) fun h => (S.up a h).elim fun _ z => z.imp fun _ z => z.2.1
 ·exact S.mE fun m F _ => F.ns.elim fun o z => z.elim fun _ z => z.elim fun _ z => ⟨o, h ▸ z.1⟩
 ·obtain ⟨c, hc, hac⟩ := List.mem_flatMap.mp h
  obtain ⟨i, hi, e⟩ := List.getElem_of_mem hc
  exact (S.hp.2 i c _ (e ▸ List.getElem?_eq_getElem hi) (List.getElem?_eq_getElem (S.hp.1 ▸ hi))).has hac
 ·exact (mem_TB h).elim fun q z => (S.tb.at z.1).2.imp fun _ y => y.elim fun _ y => z.2 ▸ y.1
theorem SI.wstep {s1 s : Shared} {ρ1 : List Cell} {loc1 : Loc} {H1 : List AO} (S1 : SI W Φ ρ1 loc1 H1 s1) (t : Stp Φ ρ1 ρ s1 s) (S : SI W Φ ρ loc H s) {wr : List Addr} (hw : ∀ b ∈ wr, s1.heap.get? b = none ∧ b ∉ Φ.M ρ) (hnf : ∀ b ∈ wr, ∃ o, s.heap.get? b = some o ∧ ¬ Flat o)
  {h' : Heap} {tk : Nat} (hk : ∀ b o, b ∉ wr → s.heap.get? b = some o → h'.get? b = some o) :
  Stp Φ ρ1 ρ s1 { s with heap := h', toks := tk } ∧ SI W Φ ρ loc H { s with heap := h', toks := tk } ∧ (∀ a o, Φ.P ρ s.heap a o → Flat o → Φ.P ρ h' a o) := by
 have old : ∀ a o, s1.heap.get? a = some o → a ∉ wr := fun a o e q => nomatch (hw a q).1.symm.trans e
 have pm : ∀ a o, Φ.P ρ s.heap a o → Flat o → Φ.P ρ h' a o := fun a o z fl => ⟨hk a o (fun q => (hnf a q).elim fun o' y => y.2 (Option.some.inj (z.1.symm.trans y.1) ▸ fl)) z.1, z.2⟩
 have mk : ∀ a ∈ Φ.M ρ, a ∉ wr := fun a h q => (hw a q).2 h
 have cellk : ∀ c ∈ Φ.cells, ∀ v, s.heap.IsCell c v → h'.IsCell c v := fun c hc v z => z.imp fun o z => ⟨hk c o (mk c (mem_M_cell hc)) z.1, z.2⟩
 refine ⟨⟨t.pre, fun a o e n => have z := t.keep a o e n; ⟨hk a o (old a o e) z.1, z.2⟩, t.os⟩, ⟨S1.mE fun m1 F1 _ => S.mE fun m F l => ⟨m, ⟨F.ns.imp fun oL => .imp fun _ => .imp fun _ z => ⟨hk _ _ (mk _ mem_M_L) z.1, z.2⟩, fun b o e => hk b o (old b o (F1.keep b o e)) (F.keep b o e), F.above⟩, l.to cellk fun _ _ z => z.monoF pm fun _ _ h => h⟩, fun c hc => (S.cl c hc).imp fun v h => cellk c hc v h,
  ⟨S.hp.1, fun i c o h1 h2 => (S.hp.2 i c o h1 h2).monoF (fun a ha o e => hk a o (mk a (mem_M_mut (mem_mutA h1 ha))) e) pm fun _ _ h => h⟩, S.nd, S.gn, fun a ha => (S.has ha).elim fun o e => Heap.lt_size (hk a o (mk a ha) e), S.tb.two fun q hq a ha o e => hk a o (fun z => ?_) e, S.gens, S.up.keep fun b o hb e => hk b o (mk b (mem_M_tb (mem_T_X hb))) e⟩, pm⟩
 ·have y := S1.tb.at hq
  exact ha.elim (fun e => y.1.elim fun o y => y.elim fun _ y => old _ o y.1 (e ▸ z)) fun e => y.2.elim fun o y => y.elim fun _ y => old _ o y.1 (e ▸ z)
theorem get_none_of_size {h : Heap} {b : Addr} (hb : h.objs.size ≤ b) : h.get? b = none := by
 cases q : h.get? b with
 | none => rfl
 | some o => exact absurd (Heap.lt_size q) (Nat.not_lt.mpr hb)
end
end
end
section
section
noncomputable abbrev GF := V → Loc → Option Loc
noncomputable def SA (W : Wd) (Φ : Fx) (target : Expr) (f : GF) : Prop := ∀ loc H v loc' ρ s X (Q : Unit → Shared → Prop) (E : Value → Shared → Prop), f v loc = some loc' → SI W Φ ρ loc H s → VR (Φ.P ρ s.heap) ρ v X →
 (∀ s', Stp Φ ρ ρ s s' → SI W Φ ρ loc' H s' → Q () s') → wpAny W.M Φ.A (assign target Φ.env X) Q E s
section
variable {W : Wd} {Φ : Fx} {ρ : List Cell} {loc : Loc} {H : List AO} {s : Shared} {tgt : Expr → Prop}
theorem sa_name (O : Φ.Ok W) (i : Nat) {x : Str} {k : Option Addr} {p : Pos} (hn : Φ.names[i]? = some (x, k)) (hk : k ≠ none → Φ.env.kindOf x = some .cell) : SA W Φ (.Name x p) (fun v loc => some (loc.set i (some v))) := fun loc H v loc' ρ s X Q E hf S hv kk => by
 cases hf
 exact wpAny_assign_Name (wp_store O hn S hv hk fun s' t S' => kk s' t S')
noncomputable def loopF (tf : GF) (B Z : SF) : List V → SF
 | [], loc, H => Z loc H
 | x :: xs, loc, H => (tf x loc).bind fun l => (B l H).bind fun r => loopK (loopF tf B Z xs r.2.1 r.2.2) (some (.next, r.2.1, r.2.2)) (fun v => some (.ret v, r.2.1, r.2.2)) r.1
section
variable {ρ' : List Cell} {l : Loc} {h : List AO} {s1 s' : Shared} {I : Addr} {wr : List Addr} {K : List V → Heap → Prop} {KM : Value → List V → Heap → Prop} {Qn : Option Value → Shared → Prop} {En : Value → Shared → Prop}
theorem Iter.turn (IT : Iter W I wr (Φ.P ρ s1.heap) ρ K KM tgt) (hA : Φ.A.handled = none) (S1 : SI W Φ ρ loc H s1) (t' : Stp Φ ρ ρ' s1 s') (S' : SI W Φ ρ' l h s') (hw : ∀ b ∈ wr, s1.heap.get? b = none) (nM : ∀ b ∈ wr, b ∉ Φ.M ρ') {y : V} {ys : List V} (hK' : K (y :: ys) s'.heap) {target : Expr} (ht : tgt target)
  (k : ∀ X h1 tk, (∀ (Q : Unit → Shared → Prop) (E : Value → Shared → Prop), (∀ h5, K ys h5 → Stp Φ ρ ρ' s1 { s' with heap := h5, toks := tk } → SI W Φ ρ' l h { s' with heap := h5, toks := tk } → VR (Φ.P ρ' h5) ρ' y X → Q () { s' with heap := h5, toks := tk }) → wpAny W.M Φ.A (letOwnedTupleGo target (.ref I) X) Q E { s' with heap := h1, toks := tk }) → Qn (some X) { s' with heap := h1, toks := tk }) : wpAny W.M Φ.A (pyNext (.ref I)) Qn En s' :=
 IT.step _ hA _ _ _ _ _ hK' fun X h1 tk hKM hk vr => k X h1 tk fun Q E kq => by
  have z3 := SI.wstep S1 t' S' (fun b hb => ⟨hw b hb, nM b hb⟩) (IT.nf _ _ hK') (tk := tk) hk
  refine IT.go _ _ _ _ _ _ _ ht hKM fun h5 hK5 hk5 => ?_
  have z5 := SI.wstep S1 z3.1 z3.2.1 (fun b hb => ⟨hw b hb, nM b hb⟩) (IT.nfM _ _ _ hKM) (tk := tk) hk5
  exact kq h5 hK5 z5.1 z5.2.1 (vr.monoF (fun a o z fl => z.elim (fun z => z5.2.2 a o (z3.2.2 a o (t'.keep a o z.1 z.2) fl) fl) fun z => z5.2.2 a o ⟨z.2, fun hm => absurd (S'.lt a hm) (Nat.not_lt.mpr z.1)⟩ fl) t'.pre)
theorem Iter.after (IT : Iter W I wr (Φ.P ρ s1.heap) ρ K KM tgt) {ρ7 : List Cell} {ys : List V} {s5 s7 : Shared} (hK5 : K ys s5.heap) (t15 : Stp Φ ρ ρ' s1 s5) (nM : ∀ b ∈ wr, b ∉ Φ.M ρ') (t57 : Stp Φ ρ' ρ7 s5 s7) : K ys s7.heap ∧ ∀ b ∈ wr, b ∉ Φ.M ρ7 :=
 ⟨IT.keep _ _ _ hK5 fun b o e q => q.elim (fun q => (t57.keep b o e (nM b q)).1) fun q => ((t15.trans t57).keep b o q.1 q.2).1, fun b hb => (IT.nf _ _ hK5 b hb).elim fun o z => (t57.keep b o z.1 (nM b hb)).2⟩
theorem Iter.fin (IT : Iter W I wr (Φ.P ρ s1.heap) ρ K KM tgt) (hA : Φ.A.handled = none) (S1 : SI W Φ ρ loc H s1) (t' : Stp Φ ρ ρ' s1 s') (S' : SI W Φ ρ' l h s') (hw : ∀ b ∈ wr, s1.heap.get? b = none) (nM : ∀ b ∈ wr, b ∉ Φ.M ρ') (hK' : K [] s'.heap)
  (k : ∀ h1 tk, Stp Φ ρ ρ' s1 { s' with heap := h1, toks := tk } → SI W Φ ρ' l h { s' with heap := h1, toks := tk } → Qn none { s' with heap := h1, toks := tk }) : wpAny W.M Φ.A (pyNext (.ref I)) Qn En s' :=
 IT.done _ hA _ _ _ hK' fun h1 tk hk => have z := SI.wstep S1 t' S' (fun b hb => ⟨hw b hb, nM b hb⟩) (IT.nf _ _ hK') (tk := tk) hk; k h1 tk z.1 z.2.1
theorem wr_none (S1 : SI W Φ ρ loc H s1) (hw : ∀ b ∈ wr, s1.heap.get? b = none) : ∀ b ∈ wr, b ∉ Φ.M ρ := fun b hb hm => (S1.has hm).elim fun o e => nomatch (hw b hb).symm.trans e
end
theorem loop_go (O : Φ.Ok W) {target : Expr} {body orelse : List Stmt} {I : Addr} {wr : List Addr} {K : List V → Heap → Prop} {KM : Value → List V → Heap → Prop} {tf : GF} {B Z : SF} {xs : List V} {s1 s2 : Shared} {R : Result → Shared → Prop} {r : FL} {loc' : Loc} {H' : List AO}
  (ht : tgt target) (hA : SA W Φ target tf) (hB : SX W Φ (execs body Φ.env) B) (hZ : SX W Φ (execs orelse Φ.env) Z) (S1 : SI W Φ ρ loc H s1) (k2 : Kp s1 s2) (hw : ∀ b ∈ wr, s1.heap.get? b = none) (IT : Iter W I wr (Φ.P ρ s1.heap) ρ K KM tgt) (hK : K xs s2.heap)
  (hf : loopF tf B Z xs loc H = some (r, loc', H')) (k : SX.K W Φ ρ s1 (fun X => R (.ok X)) r loc' H') : codeAny W.M Φ.A (.forLoop target (.ref I) body orelse Φ.env) R s2 := by
 suffices key : ∀ J : Nat → Shared → Prop, (∀ n s', J n s' → ∃ ys l h ρ', n = ys.length ∧ K ys s'.heap ∧ Stp Φ ρ ρ' s1 s' ∧ SI W Φ ρ' l h s' ∧ (∀ b ∈ wr, b ∉ Φ.M ρ') ∧ loopF tf B Z ys l h = some (r, loc', H')) → (∀ ys l h ρ' s', K ys s'.heap → Stp Φ ρ ρ' s1 s' → SI W Φ ρ' l h s' → (∀ b ∈ wr, b ∉ Φ.M ρ') → loopF tf B Z ys l h = some (r, loc', H') → J ys.length s') → codeAny W.M Φ.A (.forLoop target (.ref I) body orelse Φ.env) R s2 from key _ (fun _ _ z => z) fun ys l h ρ' s' a b c d e => ⟨ys, l, h, ρ', rfl, a, b, c, d, e⟩
 refine fun J jo ji => codeAny_forLoop_any J (fun n s' z => cps fun G kG => (jo _ _ z).elim fun ys z => z.elim fun l z => z.elim fun h z => z.elim fun ρ' z => ?_) xs.length (ji _ _ _ _ _ hK k2.stp (S1.kept k2) (wr_none S1 hw) hf)
 have t' := z.2.2.1
 have S' := z.2.2.2.1
 have nM := z.2.2.2.2.1
 have hf' := z.2.2.2.2.2
 cases ys with
 | nil => exact kG (IT.fin O.hh S1 t' S' hw nM z.2.1 fun h1 tk t3 S3 => hZ _ _ _ _ _ _ _ _ _ hf' S3 fun X s4 ρ4 t4 S4 r4 => k X s4 ρ4 (t3.trans t4) S4 r4)
 | cons y ys =>
  refine obp hf' fun l1 e1 hf' => obp3 hf' fun fl l2 h2 e2 hf' => kG (IT.turn O.hh S1 t' S' hw nM z.2.1 ht fun X h1 tk go => go _ _ fun h5 hK5 t5 S5 vr5 => hA _ _ _ _ _ _ _ _ _ e1 S5 vr5 fun s6 t6 S6 => hB _ _ _ _ _ _ _ _ _ e2 S6 fun Y s7 ρ7 t7 S7 r7 => ?_)
  have t67 := t6.trans t7
  have af := IT.after (s5 := { s' with heap := h5, toks := tk }) hK5 t5 nM t67
  have t17 := t5.trans t67
  refine r7.loop (Q := fun X => R (.ok X) s7) hf' (fun hf' => ⟨ys.length, z.1.symm ▸ Nat.lt_succ_self _, ji _ _ _ _ _ af.1 t17 S7 af.2 hf'⟩) (fun e => k.ofS e _ _ _ t17 S7 trivial) fun _ _ v e => k.ofS e _ _ _ t17 S7 v
noncomputable def forF (q : QF) (tf : GF) (B Z : SF) : SF := fun loc H => (q loc H).bind fun p => loopF tf B Z p.1 loc p.2
theorem sx_for (O : Φ.Ok W) {target iter : Expr} {body orelse : List Stmt} {pos : Pos} {q : QF} {tf : GF} {B Z : SF} (ht : tgt target) (hq : SQ W Φ iter tgt q) (hA : SA W Φ target tf) (hB : SX W Φ (execs body Φ.env) B) (hZ : SX W Φ (execs orelse Φ.env) Z)
  (hs : ∀ x, foldedSetIterable iter Φ.env x = pure x) : SX W Φ (exec (.For target iter body orelse pos) Φ.env) (forF q tf B Z) := fun loc H r loc' H' ρ s Q E hf S k => by
 unfold forF at hf
 refine obp2 hf fun xs H1 e1 hf => ?_
 refine wpAny_For (hq _ _ _ _ _ _ _ _ e1 S fun s1 ρ1 t1 S1 I wr K KM s2 k2 hw hw2 IT hK => ?_) hs
 exact loop_go O ht hA hB hZ S1 k2 (fun b hb => get_none_of_size (hw b hb)) IT hK hf fun X s' ρ' t' S' r' => k X s' ρ' (t1.trans t') S' r'
end
end
end
section
section
noncomputable def lowV (n0 : Nat) : Nat → V → Bool
 | 0, _ => false
 | k + 1, v => V.casesOn v true (fun _ => true) (fun _ => true) (fun _ => true) (fun xs => xs.all (lowV n0 k)) (fun xs => xs.all (lowV n0 k)) (fun i => decide (i < n0)) (fun _ _ => true) (fun _ => true) fun _ => true
noncomputable def lowO (n0 : Nat) (o : AO) : Bool := AO.casesOn o (fun xs => xs.all (lowV n0 8)) fun _ sq fs => (Option.casesOn sq true fun xs => xs.all (lowV n0 8)) && fs.all fun p => lowV n0 8 p.2
noncomputable def frzV (n0 : Nat) (H : List AO) : Nat → V → Option V
 | 0, _ => none
 | k + 1, v => V.casesOn v (some v) (fun _ => some v) (fun _ => some v) (fun _ => some v) (fun xs => (allM (frzV n0 H k) xs).map .tup) (fun xs => (allM (frzV n0 H k) xs).map .lst)
  (fun i => if i < n0 then some (.ref i) else listAt (fun xs => (allM (frzV n0 H k) xs).map .lst) H[i]?) (fun _ _ => some v) (fun _ => some v) fun _ => some v
noncomputable def frz (n0 : Nat) (v : V) (H : List AO) : Option (V × List AO) := if (H.take n0).all (lowO n0) then (frzV n0 H 8 v).map (·, H.take n0) else none
section
variable {W : Wd} {Φ : Fx} {ρ ρ' : List Cell} {loc : Loc} {H H' : List AO} {s s' : Shared} {P P' : Addr → Obj → Prop} {n0 : Nat}
theorem VRs.map_of {f : V → Option V} (h : ∀ v X u, VR P ρ v X → f v = some u → VR P' ρ' u X) {xs vs} (r : VRs P ρ xs vs) : ∀ {us}, allM f xs = some us → VRs P' ρ' us vs :=
 r.ind (m := fun xs vs => ∀ {us}, allM f xs = some us → VRs P' ρ' us vs) (fun {_} e => Option.some.inj e ▸ .nil) fun {_ _ _ _} a _ ih {_} e => obp e fun d e1 e => omp e fun ds e2 q => q ▸ .cons (h _ _ _ a e1) (ih e2)
theorem all_cons_is {α : Type} {f : α → Bool} {x : α} {xs : List α} (h : (x :: xs).all f = true) : f x = true ∧ xs.all f = true := Bool.and_eq_true_iff.mp h
theorem VRs.all_of {f : V → Bool} (h : ∀ v X, VR P ρ v X → f v = true → VR P' ρ' v X) {xs vs} (r : VRs P ρ xs vs) : xs.all f = true → VRs P' ρ' xs vs :=
 r.ind (m := fun xs vs => xs.all f = true → VRs P' ρ' xs vs) (fun _ => .nil) fun a _ ih e => have e := all_cons_is e; .cons (h _ _ a e.1) (ih e.2)
theorem low_ok (hp : ∀ a o, P' a o → P a o) (hr : ∀ (i : Nat) c, i < n0 → ρ'[i]? = some c → ρ[i]? = some c) (k : Nat) : ∀ {v X}, VR P' ρ' v X → lowV n0 k v = true → VR P ρ v X := by
 induction k with
 | zero => exact fun _ e => nomatch e
 | succ k ih =>
  exact fun {v X} r => VR.casesOn (motive_1 := fun v X _ => lowV n0 (k + 1) v = true → VR P ρ v X) r (fun _ => .none) (fun b _ => .bool b) (fun i t _ => .int i t) (fun x t _ => .str x t) (fun n _ => .typ n) (fun X h _ => .tok X h)
   (fun ha hs e => .tup (hp _ _ ha) (hs.all_of (fun _ _ r e => ih r e) e)) (fun ha hs e => .lst (hp _ _ ha) (hs.all_of (fun _ _ r e => ih r e) e)) (fun hi e => .ref (hr _ _ (of_decide_eq_true e) hi)) (fun ha _ => .rng (hp _ _ ha))
theorem frzV_ok (hp : ∀ a o, P' a o → P a o) (hr : ∀ (i : Nat) c, i < n0 → ρ'[i]? = some c → ρ[i]? = some c) (hc : ∀ (i : Nat) c xs, n0 ≤ i → ρ'[i]? = some c → H[i]? = some (.list xs) → ∃ vs n, P c.1 (lstO vs n) ∧ VRs P' ρ' xs vs) (k : Nat) :
  ∀ {v X u}, VR P' ρ' v X → frzV n0 H k v = some u → VR P ρ u X := by
 induction k with
 | zero => exact fun _ e => nomatch e
 | succ k ih =>
  have all := fun {xs vs} (r : VRs P' ρ' xs vs) {us} (e : allM (frzV n0 H k) xs = some us) => r.map_of (fun _ _ _ r e => ih r e) e
  exact fun {v X u} r => VR.casesOn (motive_1 := fun v X _ => frzV n0 H (k + 1) v = some u → VR P ρ u X) r (fun e => Option.some.inj e ▸ .none) (fun b e => Option.some.inj e ▸ .bool b) (fun i t e => Option.some.inj e ▸ .int i t) (fun x t e => Option.some.inj e ▸ .str x t) (fun n e => Option.some.inj e ▸ .typ n) (fun X h e => Option.some.inj e ▸ .tok X h)
   (fun ha hs e => omp e fun ys e1 q => q ▸ .tup (hp _ _ ha) (all hs e1)) (fun ha hs e => omp e fun ys e1 q => q ▸ .lst (hp _ _ ha) (all hs e1))
   (fun {i c} hi e => (Nat.lt_or_ge i n0).elim (fun q => Option.some.inj ((if_pos q).symm.trans e) ▸ .ref (hr _ _ q hi)) fun q => listAt_is ((if_neg (Nat.not_lt.mpr q)).symm.trans e) fun xs hx e => omp e fun ys e1 q2 => (hc i c xs q hi hx).elim fun vs z => z.elim fun n z => q2 ▸ .lst z.1 (all z.2 e1))
   (fun ha e => Option.some.inj e ▸ .rng (hp _ _ ha))
theorem FRs.all_of {w : World} {f : V → Bool} (h : ∀ v X, VR P ρ v X → f v = true → VR P' ρ' v X) {xs vs} (r : FRs w P ρ xs vs) : (xs.all fun p => f p.2) = true → FRs w P' ρ' xs vs :=
 FRs.rec (motive := fun xs vs _ => (xs.all fun p => f p.2) = true → FRs w P' ρ' xs vs) (fun _ => .nil) (fun a _ ih e => have e := all_cons_is e; .cons (h _ _ a e.1) (ih e.2)) r
theorem mutA_prefix (h : ∀ (i : Nat) c, ρ[i]? = some c → ρ'[i]? = some c) {a : Addr} (m : a ∈ mutA ρ) : a ∈ mutA ρ' := by
 obtain ⟨c, hc, hac⟩ := List.mem_flatMap.mp m
 obtain ⟨i, hi, e⟩ := List.getElem_of_mem hc
 exact List.mem_flatMap.mpr ⟨c, List.mem_of_getElem? (h i c (by rw [List.getElem?_eq_getElem hi, e])), hac⟩
theorem M_prefix (h : ∀ (i : Nat) c, ρ[i]? = some c → ρ'[i]? = some c) {a : Addr} (m : a ∈ Φ.M ρ) : a ∈ Φ.M ρ' := mem_M_cases m (fun q => q ▸ mem_M_L) mem_M_cell (fun q => mem_M_mut (mutA_prefix h q)) mem_M_tb
theorem pre_split : ∀ {ρ ρ' : List Cell}, (∀ (i : Nat) c, ρ[i]? = some c → ρ'[i]? = some c) → ∃ τ, ρ' = ρ ++ τ
 | [], ρ', _ => ⟨ρ', rfl⟩
 | c :: r, ρ', h => by
  cases ρ' with
  | nil => have := h 0 c rfl; simp at this
  | cons d r' =>
   have e : d = c := by have := h 0 c rfl; simpa using this
   obtain ⟨τ, e2⟩ := pre_split (ρ := r) (ρ' := r') fun i c hc => by have := h (i + 1) c (by simpa using hc); simpa using this
   exact ⟨τ, by rw [e, e2]; rfl⟩
noncomputable def V.bd (n : Nat) (v : V) : Prop := V.rec (motive_1 := fun _ => Prop) (motive_2 := fun _ => Prop) True (fun _ => True) (fun _ => True) (fun _ => True) (fun _ h => h) (fun _ h => h) (fun i => i < n) (fun _ _ => True) (fun _ => True) (fun _ => True) True (fun _ _ a b => a ∧ b) v
noncomputable def bds (n : Nat) (v : List V) : Prop := V.rec_1 (motive_1 := fun _ => Prop) (motive_2 := fun _ => Prop) True (fun _ => True) (fun _ => True) (fun _ => True) (fun _ h => h) (fun _ h => h) (fun i => i < n) (fun _ _ => True) (fun _ => True) (fun _ => True) True (fun _ _ a b => a ∧ b) v
theorem VR.bd {v X} (h : VR P ρ v X) : v.bd ρ.length := VR.rec (motive_1 := fun v _ _ => v.bd ρ.length) (motive_2 := fun xs _ _ => bds ρ.length xs) trivial (fun _ => trivial) (fun _ _ => trivial) (fun _ _ => trivial) (fun _ => trivial) (fun _ _ => trivial) (fun _ _ h => h) (fun _ _ h => h) (fun e => (List.getElem?_eq_some_iff.mp e).1) (fun _ => trivial) trivial (fun _ _ a b => ⟨a, b⟩) h
theorem VR.relow {P0 : Addr → Obj → Prop} (hp : ∀ a o, P' a o → P a o) (hr : ∀ (i : Nat) c, i < ρ.length → ρ'[i]? = some c → ρ[i]? = some c) {v X0 X} (h0 : VR P0 ρ v X0) (h : VR P' ρ' v X) : VR P ρ v X :=
 VR.rec (motive_1 := fun v X _ => v.bd ρ.length → VR P ρ v X) (motive_2 := fun v X _ => bds ρ.length v → VRs P ρ v X) (fun _ => .none) (fun b _ => .bool b) (fun i t _ => .int i t) (fun x t _ => .str x t) (fun n _ => .typ n) (fun X h _ => .tok X h)
  (fun ha _ ih e => .tup (hp _ _ ha) (ih e)) (fun ha _ ih e => .lst (hp _ _ ha) (ih e)) (fun hi e => .ref (hr _ _ e hi)) (fun ha _ => .rng (hp _ _ ha)) (fun _ => .nil) (fun _ _ a b e => .cons (a e.1) (b e.2)) h h0.bd
theorem OR.low {w : World} {h : Heap} {c : Cell} (hp : ∀ a o, P' a o → P a o) (hr : ∀ (i : Nat) c, i < n0 → ρ'[i]? = some c → ρ[i]? = some c) {o : AO} (z : OR w h P' ρ' c o) (lo : lowO n0 o = true) : OR w h P ρ c o := by
 have all := fun {xs vs} (r : VRs P' ρ' xs vs) (e : xs.all (lowV n0 8) = true) => r.all_of (fun _ _ r e => low_ok hp hr 8 r e) e
 have alf := fun {xs vs} (r : FRs w P' ρ' xs vs) (e : (xs.all fun p => lowV n0 8 p.2) = true) => r.all_of (fun _ _ r e => low_ok hp hr 8 r e) e
 exact AO.casesOn (motive := fun o => OR w h P' ρ' c o → lowO n0 o = true → OR w h P ρ c o) o (fun _ z e => ⟨z.1, z.2.imp fun _ => .imp fun _ z => ⟨z.1, all z.2 e⟩⟩) (fun C sq fs =>
  Option.casesOn (motive := fun sq => OR w h P' ρ' c (.inst C sq fs) → lowO n0 (.inst C sq fs) = true → OR w h P ρ c (.inst C sq fs)) sq (fun z e => z.imp fun _ => .imp fun _ => .imp fun _ z => ⟨z.1, z.2.1, z.2.2.1, alf z.2.2.2 e⟩)
   fun _ z e => have e := Bool.and_eq_true_iff.mp e; z.imp fun _ => .imp fun _ => .imp fun _ => .imp fun _ => .imp fun _ z => ⟨z.1, z.2.1, all z.2.2.1 e.1, z.2.2.2.1, alf z.2.2.2.2 e.2⟩) z lo
theorem M_sub {τ : List Cell} : (Φ.M ρ).Sublist (Φ.M (ρ ++ τ)) := by
 unfold Fx.M
 rw [mutA_append]
 exact .cons_cons _ (.append (.refl _) (.append (List.sublist_append_left _ _) (.refl _)))
theorem SI.notM {τ : List Cell} (S : SI W Φ (ρ ++ τ) loc H s) {c : Cell} (h : c ∈ τ) : c.1 ∉ Φ.M ρ := fun q => by
 have m : c.1 ∈ mutA τ := List.mem_flatMap.mpr ⟨c, h, .head _⟩
 have m2 : c.1 ∈ mutA (ρ ++ τ) := (mutA_append ρ τ) ▸ List.mem_append_right _ m
 exact mem_M_cases q (fun e => S.p2 (e ▸ m2)) (fun e => (S.p4 _ e).1 m2) (fun e => (List.nodup_append.mp (mutA_append ρ τ ▸ S.p7)).2.2 _ e _ m rfl) fun e => S.p5 _ m2 e
theorem SI.freeze (S : SI W Φ ρ loc H s) (t : Stp Φ ρ ρ' s s') (S' : SI W Φ ρ' loc H' s') {v u : V} {X : Value} (r : VR (Φ.P ρ' s'.heap) ρ' v X) {H2 : List AO} (hf : frz H.length v H' = some (u, H2)) :
  Stp Φ ρ ρ s s' ∧ SI W Φ ρ loc H2 s' ∧ VR (Φ.P ρ s'.heap) ρ u X := by
 refine ifo hf fun hl hf => omp hf fun u' e1 e2 => ?_
 cases e2
 refine (pre_split t.pre).elim fun τ e => ?_
 subst e
 have hn : ρ.length = H.length := S.hp.1
 have hp : ∀ a o, Φ.P (ρ ++ τ) s'.heap a o → Φ.P ρ s'.heap a o := fun a o z => ⟨z.1, fun q => z.2 (M_sub.subset q)⟩
 have hr : ∀ (i : Nat) c, i < H.length → (ρ ++ τ)[i]? = some c → ρ[i]? = some c := fun i c hi e => (List.getElem?_append_left (hn.symm ▸ hi)).symm.trans e
 refine S.mE fun m1 F1 l1 => S'.mE fun m F l => ⟨⟨fun _ _ h => h, fun a o e n => ⟨(t.keep a o e n).1, n⟩, t.os⟩, ⟨⟨m, F, fun i x k v hn' hl' => ?_⟩, S'.cl, ⟨?_, fun i c o h1 h2 => ?_⟩, S'.nd.sublist M_sub, fun a ha => S'.gn a (M_sub.subset ha), fun a ha => S'.lt a (M_sub.subset ha), S'.tb, S'.gens, S'.up⟩, frzV_ok hp hr (fun i c xs hi e1 e2 => ?_) 8 r e1⟩
 ·exact (l1 i x k v hn' hl').elim fun _ y => (l i x k v hn' hl').imp fun _ z => ⟨z.1, y.2.relow hp (hn ▸ hr) z.2⟩
 ·have e := S'.hp.1
  rw [List.length_append] at e
  rw [List.length_take, hn, Nat.min_eq_left (by omega)]
 ·have hi : i < H.length := hn ▸ (List.getElem?_eq_some_iff.mp h1).1
  exact (S'.hp.2 i c o (t.pre i c h1) ((List.getElem?_take_of_lt hi).symm.trans h2)).low hp hr (List.all_eq_true.mp hl o (List.mem_of_getElem? h2))
 ·exact (S'.hp.2 i c _ e1 e2).2.imp fun vs => .imp fun n z => ⟨⟨z.1, S'.notM (List.mem_of_getElem? ((List.getElem?_append_right (hn.symm ▸ hi)).symm.trans e1))⟩, z.2⟩
noncomputable def frzG (F : List V → List AO → Option (V × List AO)) : List V → List AO → Option (V × List AO) := fun a H => (F a H).bind fun p => frz H.length p.1 p.2
theorem FnOk.frz {n : Nat} {f : Value} {F} (h : FnOk W n f F) : FnOk W n f (frzG F) := fun Φ O hn loc H args v H' Vs ρ s R hf S hv k => by
 refine obp2 hf fun u H1 e1 e2 => ?_
 exact h Φ O hn _ _ _ _ _ _ _ _ _ e1 S hv fun X s1 ρ1 t1 S1 v1 => have z := SI.freeze S t1 S1 v1 e2; k X s1 ρ z.1 z.2.1 z.2.2
end
end
end
section
section
noncomputable abbrev MF := Loc → List AO → Option (Loc × List AO)
noncomputable abbrev testsT (ifs : List Expr) (env : Env) : Sem Bool := forIn ifs true fun c r => if r = true then do let ok ← isTrue c env (eval c env); pure (ForInStep.yield ok) else pure (ForInStep.yield r)
noncomputable def TurnT (e : Expr) (d : Nat) (g : Comprehension) (it acc : Value) (env : Env) (emit : Sem Unit) : Sem Fin := do
 standAt g.iter.pos
 match ← pyNext it with
 | none => pure (.done .next)
 | some v =>
  letOwnedTupleGo g.target it v
  assign g.target env v
  let ok ← testsT g.ifs env
  if ok then emit
  again (.compLoop e d it acc env)
noncomputable def SM.K (W : Wd) (Φ : Fx) (ρ : List Cell) (s : Shared) (Q : Unit → Shared → Prop) (l : Loc) (H' : List AO) : Prop := ∀ s' ρ', Stp Φ ρ ρ' s s' → SI W Φ ρ' l H' s' → Q () s'
noncomputable def SMn (N : Nat) (W : Wd) (Φ : Fx) (Z : List Cell → Prop) (t : Sem Unit) (f : MF) : Prop := ∀ loc H loc' H' ρ s (Q : Unit → Shared → Prop) (E : Value → Shared → Prop), N ≤ s.toks → f loc H = some (loc', H') → SI W Φ ρ loc H s → Z ρ → SM.K W Φ ρ s Q loc' H' → wpAny W.M Φ.A t Q E s
noncomputable def SM (W : Wd) (Φ : Fx) (Z : List Cell → Prop) (t : Sem Unit) (f : MF) : Prop := ∀ loc H loc' H' ρ s (Q : Unit → Shared → Prop) (E : Value → Shared → Prop), f loc H = some (loc', H') → SI W Φ ρ loc H s → Z ρ → SM.K W Φ ρ s Q loc' H' → wpAny W.M Φ.A t Q E s
theorem SM.n {N : Nat} {W : Wd} {Φ : Fx} {Z : List Cell → Prop} {t : Sem Unit} {f : MF} (h : SM W Φ Z t f) : SMn N W Φ Z t f := fun _ _ _ _ _ _ _ _ _ hf S z k => h _ _ _ _ _ _ _ _ hf S z k
theorem SM.K.of {W : Wd} {Φ : Fx} {ρ : List Cell} {s : Shared} {Q l' H' l h} (k : SM.K W Φ ρ s Q l' H') (e : (l, h) = (l', H')) : SM.K W Φ ρ s Q l h := eq2 k e
noncomputable def SC (W : Wd) (Φ : Fx) (ifs : List Expr) (f : TF) : Prop := ∀ loc H b H' ρ s (Q : Bool → Shared → Prop) (E : Value → Shared → Prop), f loc H = some (b, H') → SI W Φ ρ loc H s →
 SB.K W Φ ρ loc s Q b H' → wpAny W.M Φ.A (testsT ifs Φ.env) Q E s
section
variable {W : Wd} {Φ : Fx} {ρ : List Cell} {loc : Loc} {H : List AO} {s : Shared} {tgt : Expr → Prop}
theorem sc_nil : SC W Φ [] (fun _ H => some (true, H)) := fun loc H b H' ρ s Q E hf S k => wpAny_tests_nil (k.of (Option.some.inj hf) s ρ .refl S)
theorem sc_one {c : Expr} {f : TF} (h : SB W Φ c f) : SC W Φ [c] f := fun loc H b H' ρ s Q E hf S k => wpAny_tests_one (h _ _ _ _ _ _ _ _ hf S k)
noncomputable def stepC (tf : GF) (tests : TF) (emit : MF) (x : V) : MF := fun loc H => (tf x loc).bind fun l => (tests l H).bind fun p => if p.1 then emit l p.2 else some (l, p.2)
noncomputable def compL (tf : GF) (tests : TF) (emit : MF) : List V → MF
 | [], loc, H => some (loc, H)
 | x :: xs, loc, H => (stepC tf tests emit x loc H).bind fun q => compL tf tests emit xs q.1 q.2
theorem compLoop_goN {N : Nat} (O : Φ.Ok W) {e elt : Expr} {gens : List Comprehension} {sc : Scope} {pos : Pos} {d : Nat} {g : Comprehension} {acc : Value} {emit : Sem Unit} {I : Addr} {wr : List Addr} {K : List V → Heap → Prop} {KM : Value → List V → Heap → Prop} {tf : GF} {tests : TF} {em : MF} {xs : List V} {s1 s2 : Shared} {R : Result → Shared → Prop} {loc' : Loc} {H' : List AO}
  {Z : List Cell → Prop} (he : e = .ListComp elt gens sc pos) (hT : ∀ it, compTurn e d it acc Φ.env = TurnT e d g it acc Φ.env emit) (hZ : ∀ ρ ρ' : List Cell, Z ρ → (∀ (i : Nat) c, ρ[i]? = some c → ρ'[i]? = some c) → Z ρ')
  (ht : tgt g.target) (hA : SA W Φ g.target tf) (hC : SC W Φ g.ifs tests) (hB : SMn N W Φ Z emit em) (hN : N ≤ s2.toks) (z : Z ρ) (S1 : SI W Φ ρ loc H s1) (k2 : Kp s1 s2) (hw : ∀ b ∈ wr, s1.heap.get? b = none) (IT : Iter W I wr (Φ.P ρ s1.heap) ρ K KM tgt) (hK : K xs s2.heap)
  (hf : compL tf tests em xs loc H = some (loc', H')) (k : SM.K W Φ ρ s1 (fun _ => R (.ok .next)) loc' H') : codeAny W.M Φ.A (.compLoop e d (.ref I) acc Φ.env) R s2 := by
 subst he
 suffices key : ∀ J : Nat → Shared → Prop, (∀ n s', J n s' → ∃ ys l h ρ', n = ys.length ∧ N ≤ s'.toks ∧ K ys s'.heap ∧ Stp Φ ρ ρ' s1 s' ∧ SI W Φ ρ' l h s' ∧ (∀ b ∈ wr, b ∉ Φ.M ρ') ∧ compL tf tests em ys l h = some (loc', H')) → (∀ ys l h ρ' s', N ≤ s'.toks → K ys s'.heap → Stp Φ ρ ρ' s1 s' → SI W Φ ρ' l h s' → (∀ b ∈ wr, b ∉ Φ.M ρ') → compL tf tests em ys l h = some (loc', H') → J ys.length s') → codeAny W.M Φ.A (.compLoop (.ListComp elt gens sc pos) d (.ref I) acc Φ.env) R s2 from key _ (fun _ _ z => z) fun ys l h ρ' s' a b c d e f => ⟨ys, l, h, ρ', rfl, a, b, c, d, e, f⟩
 refine fun J jo ji => codeAny_loop rfl J (fun n s' y => ?_) xs.length (ji _ _ _ _ _ hN hK k2.stp (S1.kept k2) (wr_none S1 hw) hf)
 show wpAny _ Φ.A ((compTurn (.ListComp elt gens sc pos) d (.ref I) acc Φ.env).onRaise (fun x => do noteFrame x Φ.env; theTreesLotGoes x)) _ _ s'
 refine wpAny_noted ?_
 rw [hT]
 unfold TurnT
 refine wpAny_bind (wpAny_standAt (wpAny_bind (cps fun G kG => (jo _ _ y).elim fun ys y => y.elim fun l y => y.elim fun h y => y.elim fun ρ' y => ?_)))
 have t' := y.2.2.2.1
 have S' := y.2.2.2.2.1
 have nM := y.2.2.2.2.2.1
 have hf' := y.2.2.2.2.2.2
 cases ys with
 | nil => exact kG (IT.fin O.hh S1 t' S' hw nM y.2.2.1 fun h1 tk t3 S3 => wpAny_pure (k.of (Option.some.inj hf') _ _ t3 S3))
 | cons v ys =>
  refine obp2 hf' fun l2 h2 e hf' => obp e fun l1 e1 e => obp2 e fun b h9 e2 e3 => kG (wpAny_with_toks y.2.1 (IT.turn O.hh S1 t' S' hw nM y.2.2.1 ht fun X h1 tk go hN1 => wpAny_bind (go _ _ fun h5 hK5 t5 S5 vr5 => wpAny_bind (wpAny_with_toks (n := N) hN1 (hA _ _ _ _ _ _ _ _ _ e1 S5 vr5 fun s6 t6 S6 hN6 => wpAny_bind (wpAny_with_toks (n := N) hN6 (hC _ _ _ _ _ _ _ _ e2 S6 fun s7 ρ7 t7 S7 hN7 => ?_)))))))
  cases b with
  | true => exact wpAny_bind (wpAny_with_toks (n := N) hN7 (hB _ _ _ _ _ _ _ _ hN7 e3 S7 (hZ _ _ z (t5.trans (t6.trans t7)).pre) fun s8 ρ8 t8 S8 hN8 => have tt := t6.trans (t7.trans t8); have af := IT.after (s5 := { s' with heap := h5, toks := tk }) hK5 t5 nM tt; wpAny_pure ⟨rfl, ys.length, y.1.symm ▸ Nat.lt_succ_self _, ji _ _ _ _ _ hN8 af.1 (t5.trans tt) S8 af.2 hf'⟩))
  | false =>
   cases e3
   have tt := t6.trans t7
   have af := IT.after (s5 := { s' with heap := h5, toks := tk }) hK5 t5 nM tt
   first
    | exact wpAny_pure ⟨rfl, ys.length, y.1.symm ▸ Nat.lt_succ_self _, ji _ _ _ _ _ hN7 af.1 (t5.trans tt) S7 af.2 hf'⟩
    | exact wpAny_bind (wpAny_pure (wpAny_pure ⟨rfl, ys.length, y.1.symm ▸ Nat.lt_succ_self _, ji _ _ _ _ _ hN7 af.1 (t5.trans tt) S7 af.2 hf'⟩))
end
end
end
section
section
section
variable {W : Wd} {Φ : Fx} {ρ : List Cell} {loc : Loc} {H : List AO} {s : Shared}
theorem mutA_apart : ∀ {ρ : List Cell}, (mutA ρ).Nodup → ∀ {i j : Nat} {c d : Cell}, ρ[i]? = some c → ρ[j]? = some d → i ≠ j → ∀ a ∈ cellAs c, a ∉ cellAs d
 | [], _, i, j, _, _, h, _, _ => by simp at h
 | e :: r, hn, i, j, c, d, hi, hj, hne => by
  have e1 : mutA (e :: r) = cellAs e ++ mutA r := rfl
  rw [e1, List.nodup_append] at hn
  obtain ⟨n1, n2, n3⟩ := hn
  intro a ha hd
  cases i with
  | zero =>
   cases j with
   | zero => exact hne rfl
   | succ j => cases hi; exact n3 a ha a (mem_mutA (i := j) (by simpa using hj) hd) rfl
  | succ i =>
   cases j with
   | zero => cases hj; exact n3 a hd a (mem_mutA (i := i) (by simpa using hi) ha) rfl
   | succ j => exact mutA_apart n2 (i := i) (j := j) (by simpa using hi) (by simpa using hj) (fun q => hne (by rw [q])) a ha hd
theorem SI.upd (S : SI W Φ ρ loc H s) {i : Nat} {c : Cell} {o' : AO} (hi : ρ[i]? = some c) {a : Addr} (ha : a ∈ cellAs c) {h' : Heap} {tk : Nat} (hs : Heap.SameBut a s.heap h') (hnf : ∀ x, s.heap.get? a = some x → ∀ vs, x.data ≠ .fields vs)
  (hor : OR W.w h' (Φ.P ρ h') ρ c o') : SI W Φ ρ loc (H.set i o') { s with heap := h', toks := tk } ∧ Stp Φ ρ ρ s { s with heap := h', toks := tk } := by
 have hk := hs.extBut
 have am : a ∈ mutA ρ := mem_mutA hi ha
 have aM : a ∈ Φ.M ρ := mem_M_mut am
 have p2 := S.p2
 have p4 := S.p4
 have p5 := S.p5
 have p7 := S.p7
 obtain ⟨m, F, l⟩ := S.m
 have cellk : ∀ d ∈ Φ.cells, ∀ v, s.heap.IsCell d v → h'.IsCell d v := fun d hd v q => q.sameBut hs fun e => (p4 d hd).1 (e ▸ am)
 have pm : ∀ b o, Φ.P ρ s.heap b o → Φ.P ρ h' b o := fun b o z => SI.mono_but aM hk z
 refine ⟨⟨⟨m, F.change hs (fun q => p2 (q ▸ am)) (S.gn a aM), l.to cellk fun _ _ z => z.mono pm fun _ _ h => h⟩, fun d hd => (S.cl d hd).imp fun v h => cellk d hd v h, ⟨by simpa using S.hp.1, fun j d o h1 h2 => ?_⟩, S.nd, S.gn, fun b hb => by show b < h'.objs.size; rw [hs.1]; exact S.lt b hb, S.tb.change hk hnf, S.gens, S.up.keep fun b o hb e => hk b o (fun q => p5 a am (q ▸ mem_T_X hb)) e⟩, stp_but aM hk (Nat.le_of_eq hs.1.symm)⟩
 ·by_cases e : i = j
  ·subst e
   have : d = c := by rw [hi] at h1; exact (Option.some.inj h1).symm
   subst this
   have hlt : i < H.length := S.hp.1 ▸ (List.getElem?_eq_some_iff.mp hi).1
   rw [List.getElem?_set_self hlt] at h2
   cases h2
   exact hor
  ·rw [List.getElem?_set_ne e] at h2
   exact (S.hp.2 j d o h1 h2).mono (fun b hb x hx => hk b x (fun q => mutA_apart p7 hi h1 e a ha (q ▸ hb)) hx) pm fun _ _ h => h
theorem seq_nofields {a : Addr} {o : Obj} {vs : Array Value} {n : Nat} (e : s.heap.get? a = some o) (d : o.data = .seq vs n) : ∀ x, s.heap.get? a = some x → ∀ ws, x.data ≠ .fields ws := fun x h ws q => by
 rw [e] at h; cases h; rw [d] at q; cases q
noncomputable def appendTo (i : Nat) (x : V) (H : List AO) : Option (List AO) := listAt (fun ys => if ys.length ≤ 1000 then some (H.set i (.list (ys ++ [x]))) else none) H[i]?
theorem wp_append (S : SI W Φ ρ loc H s) {i : Nat} {c : Cell} {x : V} {X : Value} {H' : List AO} (hi : ρ[i]? = some c) (hv : VR (Φ.P ρ s.heap) ρ x X) (hf : appendTo i x H = some H') {Q : Value → Shared → Prop} {E : Value → Shared → Prop} {A : Around}
  (k : ∀ s', Stp Φ ρ ρ s s' → SI W Φ ρ loc H' s' → Q .none s') : wpAny W.M A (call (.builtin "list.append") [.ref c.1, X]) Q E s := listAt_is hf fun ys hy hf => ifs hf fun hz q => (S.hp.2 _ _ _ hi hy).2.elim fun vs z => z.elim fun n z => by
 subst q
 refine append_at z.1 (fun h' hs' e => ?_) (by have := z.2.length; rw [sizeLine_eq, List.size_toArray]; omega)
 have pm : ∀ b o, Φ.P ρ s.heap b o → Φ.P ρ h' b o := fun b o z => SI.mono_but (mem_M_mut (mem_mutA hi (.head _))) hs'.extBut z
 rw [List.push_toArray] at e
 have w := S.upd (o' := .list (ys ++ [x])) (tk := s.toks) hi (.head _) hs' (seq_nofields z.1 rfl) ⟨(S.hp.2 _ _ _ hi hy).1, _, _, e, (z.2.mono pm fun _ _ h => h).append (.cons (hv.mono pm fun _ _ h => h) .nil)⟩
 exact k _ w.2 w.1
noncomputable def emitF (i : Nat) (f : EF) : MF := fun loc H => (f loc H).bind fun p => (appendTo i p.1 p.2).map (loc, ·)
theorem wp_emit {i : Nat} {D : Addr} {elt : Expr} {v : V} {H1 : List AO} {loc' : Loc} {H' : List AO} {Q : Unit → Shared → Prop} {E : Value → Shared → Prop} (z : ρ[i]? = some (D, none)) (hf : (appendTo i v H1).map (loc, ·) = some (loc', H')) (k : SM.K W Φ ρ s Q loc' H') (he : ∀ Q, SE.K W Φ ρ loc s Q v H1 → wpAny W.M Φ.A (eval elt Φ.env) Q E s) : wpAny W.M Φ.A (do let _ ← call (.builtin "list.append") [.ref D, ← eval elt Φ.env]) Q E s := omp hf fun H2 e2 hf =>
 wpAny_bind (he _ fun X s1 ρ1 t1 S1 v1 => wpAny_bind (wp_append S1 (c := (D, none)) (t1.pre _ _ z) v1 e2 fun s2 t2 S2 => wpAny_pure (k.of hf _ _ (t1.trans t2) S2)))
theorem sm_emit {i : Nat} {D : Addr} {elt : Expr} {f : EF} (he : SE W Φ elt f) : SM W Φ (fun ρ => ρ[i]? = some (D, none)) (do let _ ← call (.builtin "list.append") [.ref D, ← eval elt Φ.env]) (emitF i f) := fun loc H loc' H' ρ s Q E hf S z k => obp2 hf fun v H1 e1 hf => wp_emit z hf k fun Q k => he _ _ _ _ _ _ _ _ e1 S k
end
end
end
section
section
noncomputable abbrev cfx (Φ : Fx) (sc : Scope) (cl : List (Str × Addr)) (names : List (Str × Option Addr)) (g : Heap) (C : Addr) : Fx := ⟨Φ.A, compEnvC sc cl C Φ.env, g, C, names, Φ.base, Φ.fr, Φ.lv⟩
noncomputable def cNames (Φ : Fx) (ys : List Str) (cs : List Nat) : List (Str × Option Addr) := ys.map (fun y => (y, none)) ++ cs.map fun i => Φ.names.getD i (⟨#[]⟩, none)
noncomputable def cLoc (loc : Loc) (ys : List Str) (cs : List Nat) : Loc := ys.map (fun _ => none) ++ cs.map fun i => loc.getD i none
structure CB (Φ : Fx) (sc : Scope) (cl : List (Str × Addr)) (ys : List Str) (cs : List Nat) : Prop where
 clos : closureFor sc Φ.env = pure cl
 kind : sc.kind = .function
 nocell : ∀ x ∈ sc.names, x.2 ≠ .cell
 names : ∀ x ∈ sc.names, x.2 = .local → sc.names.lookup x.1 = some .local
 own : ∀ y ∈ ys, sc.names.lookup y = some .local
 cap : ∀ i ∈ cs, ∃ x c, Φ.names[i]? = some (x, some c) ∧ sc.names.lookup x = some .free ∧ cl.lookup x = some c
 nd : ((cNames Φ ys cs).map (·.1)).Nodup
section
variable {W : Wd} {Φ : Fx} {ρ ρ' : List Cell} {loc : Loc} {H H' : List AO} {s s' : Shared}
theorem lookup_relabel_free {env : Env} : ∀ {names : List (Str × NameKind)} {x : Str}, names.lookup x = some .free →
  (names.map fun (n, k) => if (k == NameKind.free && env.scope.kind == .function && env.kindOf n == some .cell) then (n, NameKind.cell) else (n, k)).lookup x = some .cell ∨
  (names.map fun (n, k) => if (k == NameKind.free && env.scope.kind == .function && env.kindOf n == some .cell) then (n, NameKind.cell) else (n, k)).lookup x = some .free
 | [], _, h => by simp at h
 | (n, k) :: r, x, h => by
  have ih := @lookup_relabel_free env r x
  show List.lookup x ((if (k == NameKind.free && env.scope.kind == .function && env.kindOf n == some .cell) = true then (n, NameKind.cell) else (n, k)) :: _) = _ ∨ List.lookup x ((if (k == NameKind.free && env.scope.kind == .function && env.kindOf n == some .cell) = true then (n, NameKind.cell) else (n, k)) :: _) = _
  cases hx : x == n with
  | true =>
   simp only [List.lookup_cons, hx] at h
   cases h
   by_cases hc : (NameKind.free == NameKind.free && env.scope.kind == .function && env.kindOf n == some .cell) = true
   ·rw [if_pos hc]; exact .inl (by simp only [List.lookup_cons, hx])
   ·rw [if_neg hc]; exact .inr (by simp only [List.lookup_cons, hx])
  | false =>
   simp only [List.lookup_cons, hx] at h
   by_cases hc : (k == NameKind.free && env.scope.kind == .function && env.kindOf n == some .cell) = true
   ·rw [if_pos hc]; simp only [List.lookup_cons, hx]; exact ih h
   ·rw [if_neg hc]; simp only [List.lookup_cons, hx]; exact ih h
theorem cNames_get {ys : List Str} {cs : List Nat} {j : Nat} {x : Str} {k : Option Addr} (hcap : ∀ i ∈ cs, ∃ x c, Φ.names[i]? = some (x, some c)) (h : (cNames Φ ys cs)[j]? = some (x, k)) :
  (k = none ∧ x ∈ ys ∧ j < ys.length) ∨ (∃ i c, i ∈ cs ∧ k = some c ∧ Φ.names[i]? = some (x, some c) ∧ ys.length ≤ j ∧ cs[j - ys.length]? = some i) := by
 unfold cNames at h
 by_cases hj : j < ys.length
 ·rw [List.getElem?_append_left (by simpa using hj), List.getElem?_map] at h
  refine omp h fun y hy e => ?_
  cases e
  exact .inl ⟨rfl, List.mem_of_getElem? hy, hj⟩
 ·rw [List.getElem?_append_right (by simpa using Nat.le_of_not_lt hj), List.getElem?_map] at h
  refine omp h fun i hi e => ?_
  simp only [List.length_map] at hi
  obtain ⟨x', c, e2⟩ := hcap i (List.mem_of_getElem? hi)
  rw [List.getD_eq_getElem?_getD, e2] at e
  cases e
  exact .inr ⟨i, c, List.mem_of_getElem? hi, rfl, e2, Nat.le_of_not_lt hj, hi⟩
theorem capNodup {N : List (Str × Option Addr)} (hN : (N.filterMap (·.2)).Nodup) : ∀ {cs : List Nat}, (∀ i ∈ cs, ∃ x c, N[i]? = some (x, some c)) → ((cs.map fun i => N.getD i (⟨#[]⟩, none)).map (·.1)).Nodup → ((cs.map fun i => N.getD i (⟨#[]⟩, none)).filterMap (·.2)).Nodup
 | [], _, _ => List.nodup_nil
 | i :: r, h, hn => by
  obtain ⟨x, c, e⟩ := h i (.head _)
  have ih := capNodup hN (cs := r) (fun j hj => h j (.tail _ hj)) (List.nodup_cons.mp hn).2
  have e1 : N.getD i (⟨#[]⟩, none) = (x, some c) := by rw [List.getD_eq_getElem?_getD, e]; rfl
  rw [List.map_cons, List.filterMap_cons, e1]
  show (c :: _).Nodup
  rw [List.nodup_cons]
  refine ⟨fun hm => ?_, ih⟩
  obtain ⟨p, hp, ep⟩ := List.mem_filterMap.mp hm
  obtain ⟨j, hj, rfl⟩ := List.mem_map.mp hp
  obtain ⟨y, d, e2⟩ := h j (.tail _ hj)
  have e3 : N.getD j (⟨#[]⟩, none) = (y, some d) := by rw [List.getD_eq_getElem?_getD, e2]; rfl
  rw [e3] at ep
  cases ep
  have := filterMap_inj hN e e2
  subst this
  refine (List.nodup_cons.mp hn).1 ?_
  exact List.mem_map_of_mem (f := (·.1)) (List.mem_map_of_mem (f := fun i => N.getD i (⟨#[]⟩, none)) hj)
noncomputable def gOfC (Φ : Fx) (s : Shared) (ρ : List Cell) : Heap := hideAll s.heap (Φ.cells ++ (mutA ρ ++ Φ.T))
theorem SI.comp {sc : Scope} {cl : List (Str × Addr)} {ys : List Str} {cs : List Nat} {h' : Heap} {tk : Nat} {C : Addr} (hC : C = s.heap.objs.size) (O : Φ.Ok W) (S : SI W Φ ρ loc H s) (B : CB Φ sc cl ys cs) {m₀ : Str → Option Value} (hns : h'.Ns C m₀)
  (hk : ∀ b o, s.heap.get? b = some o → h'.get? b = some o) :
  (cfx Φ sc cl (cNames Φ ys cs) (gOfC Φ s ρ) C).Ok W ∧ SI W (cfx Φ sc cl (cNames Φ ys cs) (gOfC Φ s ρ) C) ρ (cLoc loc ys cs) H { s with heap := h', toks := tk } ∧
  (∀ a o, Φ.P ρ s.heap a o → (cfx Φ sc cl (cNames Φ ys cs) (gOfC Φ s ρ) C).P ρ h' a o) := by
 subst hC
 have hcap : ∀ i ∈ cs, ∃ x c, Φ.names[i]? = some (x, some c) := fun i hi => let ⟨x, c, h, _⟩ := B.cap i hi; ⟨x, c, h⟩
 obtain ⟨m, F, l⟩ := S.m
 have p1 := S.p1
 have p2 := S.p2
 have p3 := S.p3
 have p4 := S.p4
 have p5 := S.p5
 have p6 := S.p6
 have p7 := S.p7
 have gs : ∀ b o, (gOfC Φ s ρ).get? b = some o → s.heap.get? b = some o := fun b o e => of_hideAll _ e
 have nin : ∀ a, a ∉ Φ.cells → a ∉ mutA ρ → a ∉ Φ.T → ∀ o, s.heap.get? a = some o → (gOfC Φ s ρ).get? a = some o := fun a h0 h1 h2 o e => hideAll_get _ e fun q => by
  rcases List.mem_append.mp q with h | h
  ·exact h0 h
  ·rcases List.mem_append.mp h with h | h
   ·exact h1 h
   ·exact h2 h
 have gk : ∀ b o, Φ.g.get? b = some o → (gOfC Φ s ρ).get? b = some o := fun b o e => by
  have n : b ∉ Φ.M ρ := fun q => by have := S.gn b q; rw [e] at this; cases this
  exact nin b (fun q => n (mem_M_cell q)) (fun q => n (mem_M_mut q)) (fun q => n (mem_M_tb q)) o (F.keep b o e)
 obtain ⟨oL, es, ep, eL, rL⟩ := F.ns
 have gL := nin _ p1 p2 p3 _ eL
 have cellsIn : ∀ c ∈ (cNames Φ ys cs).filterMap (·.2), c ∈ Φ.cells := fun c hc => by
  obtain ⟨p, hp, e⟩ := List.mem_filterMap.mp hc
  obtain ⟨j, hj, ej⟩ := List.getElem_of_mem hp
  have ej' : (cNames Φ ys cs)[j]? = some (p.1, p.2) := by rw [List.getElem?_eq_getElem hj, ej]
  rcases cNames_get hcap ej' with ⟨h, _⟩ | ⟨i, c', _, h, h2, _⟩
  ·rw [h] at e; cases e
  ·rw [h] at e; cases e
   exact List.mem_filterMap.mpr ⟨_, List.mem_of_getElem? h2, rfl⟩
 have klt : s.heap.objs.size < h'.objs.size := by
  obtain ⟨o, _, _, e, _⟩ := hns
  exact Heap.lt_size e
 have cellold : ∀ c ∈ Φ.cells, c < s.heap.objs.size := fun c hc => S.lt c (mem_M_cell hc)
 have cellk : ∀ c ∈ Φ.cells, ∀ v, s.heap.IsCell c v → h'.IsCell c v := fun c _ v h => h.keeps hk
 have pk : ∀ a o, Φ.P ρ s.heap a o → (cfx Φ sc cl (cNames Φ ys cs) (gOfC Φ s ρ) s.heap.objs.size).P ρ h' a o := fun a o z => ⟨hk _ _ z.1, fun hm => by
  have hlt := Heap.lt_size z.1
  refine mem_M_cases hm (fun h => ?_) (fun h => ?_) (fun h => ?_) fun h => ?_
  ·exact absurd hlt (by rw [h]; exact Nat.lt_irrefl _)
  ·exact z.2 (mem_M_cell (cellsIn a h))
  ·exact z.2 (mem_M_mut h)
  ·exact z.2 (mem_M_tb h)⟩
 have fnd : ((cNames Φ ys cs).filterMap (·.2)).Nodup := by
  unfold cNames
  have e1 : (ys.map (fun y => ((y, none) : Str × Option Addr))).filterMap (·.2) = [] := by induction ys with | nil => rfl | cons y r ih => simp
  rw [List.filterMap_append, e1, List.nil_append]
  have nd := B.nd
  unfold cNames at nd
  rw [List.map_append, List.nodup_append] at nd
  have nd2 := nd.2.1
  exact capNodup p6 hcap nd2
 refine ⟨⟨O.K.keeps gk, O.T.keeps gk, O.frames, fun b o e => gk b o (O.stays b o e), ?_, ?_, O.hh, rfl, O.glob, O.bi, B.kind, ?_, B.nd, O.depth, O.units⟩, ⟨⟨_, ⟨hns, fun b o e => hk b o (gs b o e), Nat.le_of_eq (hideAll_size _ _)⟩, ?_⟩, fun c hc => ?_, ?_, ?_, ?_, ?_, S.tb.mono hk, S.gens, S.up.keep fun b o _ => hk b o⟩, pk⟩
 ·intro h ⟨m', F'⟩ hu
  refine funFrames_of (O.stack _ ⟨m, F⟩ S.up) fun e he b o hf ho => ?_
  rcases O.off e he with h | ⟨b', o', h1, h2⟩ | ⟨b', hb, h1⟩
  ·have q : Φ.L = b := Option.some.inj (h.symm.trans hf)
   subst q
   rw [eL] at ho; cases ho
   exact ⟨_, F'.keep _ _ gL, rfl⟩
  ·have q : b' = b := Option.some.inj (h1.symm.trans hf)
   subst q
   have := F.keep _ _ h2
   rw [ho] at this; cases this
   exact ⟨_, F'.keep _ _ (gk _ _ h2), rfl⟩
  ·have q : b' = b := Option.some.inj (h1.symm.trans hf)
   subst q
   obtain ⟨o1, o2, u1, u2, u3, _⟩ := hu b' hb
   obtain ⟨o3, o4, v1, v2, v3, _⟩ := S.up b' hb
   rw [ho] at v2; cases v2
   have u1 : Φ.base.h0.get? b' = some o1 := u1
   rw [v1] at u1; cases u1
   exact ⟨o2, u2, u3.trans v3.symm⟩
 ·intro e he
  rcases O.off e he with h | ⟨b, o, h1, h2⟩ | h
  ·exact .inr (.inl ⟨_, _, h, gL⟩)
  ·exact .inr (.inl ⟨b, o, h1, gk b o h2⟩)
  ·exact .inr (.inr h)
 ·intro j x k h
  rcases cNames_get hcap h with ⟨rfl, hy, _⟩ | ⟨i, c, hi, rfl, h2, _⟩
  ·exact lookup_relabel_local (B.own x hy)
  ·obtain ⟨x', c', e1, e2, e3⟩ := B.cap i hi
   rw [h2] at e1; cases e1
   exact ⟨lookup_relabel_free e2, e3, (O.nm i x (some c) h2).2.2⟩
 ·intro j x k v h hl
  rcases cNames_get hcap h with ⟨rfl, hy, hj⟩ | ⟨i, c, hi, rfl, h2, hj, hij⟩
  ·unfold cLoc at hl
   rw [List.getElem?_append_left (by simpa using hj)] at hl
   simp at hl
  ·unfold cLoc at hl
   rw [List.getElem?_append_right (by simpa using hj), List.getElem?_map] at hl
   simp only [List.length_map] at hl
   rw [hij] at hl
   have hl' : loc[i]? = some (some v) := by
    have hl2 : loc.getD i none = some v := by simpa using hl
    rw [List.getD_eq_getElem?_getD] at hl2
    cases q : loc[i]? with
    | none => rw [q] at hl2; cases hl2
    | some y => rw [q] at hl2; simp at hl2; rw [hl2]
   have z := l i x (some c) v h2 hl'
   exact ⟨z.choose, cellk c (List.mem_filterMap.mpr ⟨_, List.mem_of_getElem? h2, rfl⟩) _ z.choose_spec.1, z.choose_spec.2.mono pk fun _ _ h => h⟩
 ·obtain ⟨v, h⟩ := S.cl c (cellsIn c hc)
  exact ⟨v, cellk c (cellsIn c hc) v h⟩
 ·exact ⟨S.hp.1, fun i c o h1 h2 => (S.hp.2 i c o h1 h2).mono (fun a _ o h => hk a o h) pk fun _ _ h => h⟩
 ·unfold Fx.M
  rw [List.nodup_cons]
  refine ⟨fun hm => ?_, ?_⟩
  ·rcases List.mem_append.mp hm with h | h
   ·exact absurd (cellold _ (cellsIn _ h)) (Nat.lt_irrefl _)
   ·rcases List.mem_append.mp h with h | h
    ·exact S.fresh (mem_M_mut h)
    ·exact S.fresh (mem_M_tb h)
  ·rw [List.nodup_append]
   refine ⟨fnd, ?_, fun a ha b hb' e => ?_⟩
   ·rw [List.nodup_append]
    exact ⟨p7, S.ndT, fun a ha b hb' e => p5 a ha (e ▸ hb')⟩
   ·subst e
    have q := p4 a (cellsIn a ha)
    rcases List.mem_append.mp hb' with h | h
    ·exact q.1 h
    ·exact q.2 h
 ·intro a ha
  show (gOfC Φ s ρ).get? a = none
  unfold Fx.M at ha
  rcases List.mem_cons.mp ha with h | h
  ·cases q : (gOfC Φ s ρ).get? a with
   | none => rfl
   | some o => exact absurd (Heap.lt_size (gs _ _ q)) (by rw [h]; exact Nat.lt_irrefl _)
  ·rcases List.mem_append.mp h with h | h
   ·exact hideAll_none _ (List.mem_append_left _ (cellsIn a h))
   ·exact hideAll_none _ (List.mem_append_right _ h)
 ·intro a ha
  refine mem_M_cases ha (fun h => ?_) (fun h => ?_) (fun h => ?_) fun h => ?_
  ·exact h ▸ klt
  ·exact Nat.lt_trans (cellold a (cellsIn a h)) klt
  ·exact Nat.lt_trans (S.lt a (mem_M_mut h)) klt
  ·exact Nat.lt_trans (S.lt a (mem_M_tb h)) klt
end
end
end
section
section
section
variable {W : Wd} {Φ : Fx} {ρ ρ' : List Cell} {loc : Loc} {H H' : List AO} {s s1 s' : Shared}
theorem SI.leaveC {sc : Scope} {cl : List (Str × Addr)} {ys : List Str} {cs : List Nat} {g : Heap} {loc' : Loc} {C : Addr} (hC : C = s.heap.objs.size) (B : CB Φ sc cl ys cs) (S : SI W Φ ρ loc H s) (kp : Kp s s1)
  (T : Stp (cfx Φ sc cl (cNames Φ ys cs) g C) ρ ρ' s1 s') (S' : SI W (cfx Φ sc cl (cNames Φ ys cs) g C) ρ' loc' H' s') (hl : loc'.drop ys.length = (cLoc loc ys cs).drop ys.length) :
  Stp Φ ρ ρ' s s' ∧ SI W Φ ρ' loc H' s' ∧ (∀ a o, (cfx Φ sc cl (cNames Φ ys cs) g C).P ρ' s'.heap a o → Flat o → Φ.P ρ' s'.heap a o) := by
 subst hC
 generalize hΨ : cfx Φ sc cl (cNames Φ ys cs) g s.heap.objs.size = Ψ at T S' ⊢
 have hL : Ψ.L = s.heap.objs.size := by rw [← hΨ]
 have hN : Ψ.names = cNames Φ ys cs := by rw [← hΨ]
 have hT : Ψ.T = Φ.T := by rw [← hΨ]; rfl
 have hB : Ψ.base = Φ.base := by rw [← hΨ]
 have hcap : ∀ i ∈ cs, ∃ x c, Φ.names[i]? = some (x, some c) := fun i hi => let ⟨x, c, h, _⟩ := B.cap i hi; ⟨x, c, h⟩
 have p1 := S.p1
 have p2 := S.p2
 have p3 := S.p3
 have p4 := S.p4
 have p6 := S.p6
 have q4 := S'.p4
 have q5 := S'.p5
 have q7 := S'.p7
 have capOf : ∀ c ∈ Ψ.cells, ∃ (j i : Nat) (x : Str), Ψ.names[j]? = some (x, some c) ∧ Φ.names[i]? = some (x, some c) ∧ ys.length ≤ j ∧ cs[j - ys.length]? = some i := fun c hc => by
  unfold Fx.cells at hc
  rw [hN] at hc
  obtain ⟨p, hp, e⟩ := List.mem_filterMap.mp hc
  obtain ⟨j, hj, ej⟩ := List.getElem_of_mem hp
  have ej' : (cNames Φ ys cs)[j]? = some (p.1, p.2) := by rw [List.getElem?_eq_getElem hj, ej]
  rcases cNames_get hcap ej' with ⟨h, _⟩ | ⟨i, c', hi, h, h2, h3, h4⟩
  ·rw [h] at e; cases e
  ·rw [h] at e; cases e
   exact ⟨j, i, p.1, by rw [hN, ej', h], h2, h3, h4⟩
 have cellsIn : ∀ c ∈ Ψ.cells, c ∈ Φ.cells := fun c hc => let ⟨_, _, _, _, h, _⟩ := capOf c hc; List.mem_filterMap.mpr ⟨_, List.mem_of_getElem? h, rfl⟩
 have inner : ∀ a o, s.heap.get? a = some o → a ∉ Ψ.cells → a ∉ mutA ρ → a ∉ Φ.T → s'.heap.get? a = some o ∧ a ∉ Ψ.M ρ' := fun a o e h0 h1 h2 => by
  refine T.keep a o (kp.k a o e) fun hm => ?_
  have hlt := Heap.lt_size e
  refine mem_M_cases hm (fun h => ?_) (fun h => ?_) (fun h => ?_) fun h => ?_
  ·rw [h, hL] at hlt; exact absurd hlt (Nat.lt_irrefl _)
  ·exact h0 h
  ·exact h1 h
  ·exact h2 (hT ▸ h)
 have notM : ∀ a, a ∉ Ψ.M ρ' → a ∉ mutA ρ' ∧ a ∉ Φ.T := fun a h => ⟨fun q => h (mem_M_mut q), fun q => h (mem_M_tb (hT.symm ▸ q))⟩
 have stp : Stp Φ ρ ρ' s s' := ⟨T.pre, fun a o e n => by
  obtain ⟨k1, k2⟩ := inner a o e (fun q => n (mem_M_cell (cellsIn a q))) (fun q => n (mem_M_mut q)) (fun q => n (mem_M_tb q))
  refine ⟨k1, fun hm => ?_⟩
  obtain ⟨n1, n2⟩ := notM a k2
  refine mem_M_cases hm (fun h => ?_) (fun h => ?_) (fun h => ?_) fun h => ?_
  ·exact n (h ▸ mem_M_L)
  ·exact n (mem_M_cell h)
  ·exact n1 h
  ·exact n2 h, T.os.trans kp.os⟩
 obtain ⟨m, F, l⟩ := S.m
 obtain ⟨m', F', l'⟩ := S'.m
 obtain ⟨oL, es, ep, eL, rL⟩ := F.ns
 have fL := inner Φ.L oL eL (fun q => p1 (cellsIn _ q)) p2 p3
 have fC : ∀ c ∈ Φ.cells, ∀ v, s.heap.IsCell c v → (c ∉ Ψ.cells → s'.heap.IsCell c v) ∧ (∃ v', s'.heap.IsCell c v') ∧ c ∉ mutA ρ' ∧ c ∉ Φ.T := fun c hc v ⟨o, e, d⟩ => by
  by_cases q : c ∈ Ψ.cells
  ·exact ⟨fun n => absurd q n, S'.cl c q, (q4 c q).1, fun z => (q4 c q).2 (hT.symm ▸ z)⟩
  ·have z := inner c o e q (p4 c hc).1 (p4 c hc).2
   exact ⟨fun _ => ⟨o, z.1, d⟩, ⟨v, o, z.1, d⟩, notM c z.2⟩
 have gk : ∀ b o, Φ.g.get? b = some o → s'.heap.get? b = some o ∧ b ∉ Ψ.M ρ' := fun b o e => by
  have n : b ∉ Φ.M ρ := fun q => by have := S.gn b q; rw [e] at this; cases this
  exact inner b o (F.keep b o e) (fun q => n (mem_M_cell (cellsIn b q))) (fun q => n (mem_M_mut q)) (fun q => n (mem_M_tb q))
 have pm : ∀ a o, Ψ.P ρ' s'.heap a o → Flat o → Φ.P ρ' s'.heap a o := fun a o z fl => ⟨z.1, fun hm => by
  obtain ⟨n1, n2⟩ := notM a z.2
  refine mem_M_cases hm (fun h => ?_) (fun h => ?_) (fun h => ?_) fun h => ?_
  ·subst h
   have := z.1; rw [fL.1] at this; cases this
   have fl := fl.1; unfold FlatD at fl; rw [rL.1] at fl; exact fl
  ·obtain ⟨v, hv⟩ := S.cl a h
   obtain ⟨v', o', e, d⟩ := (fC a h v hv).2.1
   have := z.1; rw [e] at this; cases this
   have fl := fl.1; unfold FlatD at fl; rw [d] at fl; exact fl
  ·exact n1 h
  ·exact n2 h⟩
 refine ⟨stp, ⟨⟨m, ⟨⟨oL, es, ep, fL.1, rL⟩, fun b o e => (gk b o e).1, F.above⟩, fun i x k v hn hl' => ?_⟩, fun c hc => ?_, ⟨S'.hp.1, fun i c o h1 h2 => (S'.hp.2 i c o h1 h2).monoF (fun _ _ _ e => e) pm fun _ _ h => h⟩, ?_, ?_, ?_, S'.tb, S'.gens, hB ▸ S'.up⟩, pm⟩
 ·have z := l i x k v hn hl'
  cases k with
  | none => exact ⟨z.choose, z.choose_spec.1, stp.mono z.choose_spec.2⟩
  | some c =>
   have hcm : c ∈ Φ.cells := List.mem_filterMap.mpr ⟨_, List.mem_of_getElem? hn, rfl⟩
   by_cases q : c ∈ Ψ.cells
   ·obtain ⟨j, i', x', e1, e2, e3, e4⟩ := capOf c q
    have : i' = i := filterMap_inj p6 e2 hn
    subst this
    rw [hn] at e2; cases e2
    have lj : loc'[j]? = some (some v) := by
     have h1 : (loc'.drop ys.length)[j - ys.length]? = loc'[j]? := by rw [List.getElem?_drop]; congr 1; omega
     rw [← h1, hl, List.getElem?_drop]
     unfold cLoc
     rw [List.getElem?_append_right (by simp), List.getElem?_map]
     simp only [List.length_map]
     have h2 : ys.length + (j - ys.length) - ys.length = j - ys.length := by omega
     rw [h2, e4]
     simp [List.getD_eq_getElem?_getD, hl']
    obtain ⟨X, y1, y2⟩ := l' j x (some c) v e1 lj
    exact ⟨X, y1, y2.monoF pm fun _ _ h => h⟩
   ·exact ⟨z.choose, (fC c hcm _ z.choose_spec.1).1 q, stp.mono z.choose_spec.2⟩
 ·obtain ⟨v, h⟩ := S.cl c hc
  exact (fC c hc v h).2.1
 ·unfold Fx.M
  rw [List.nodup_cons]
  refine ⟨fun h => ?_, ?_⟩
  ·rcases List.mem_append.mp h with h | h
   ·exact p1 h
   ·rcases List.mem_append.mp h with h | h
    ·exact (notM _ fL.2).1 h
    ·exact (notM _ fL.2).2 h
  ·rw [List.nodup_append]
   refine ⟨p6, ?_, fun a ha b hb e => ?_⟩
   ·rw [List.nodup_append]
    exact ⟨q7, S.ndT, fun a ha b hb e => q5 a ha (hT.symm ▸ e ▸ hb)⟩
   ·subst e
    obtain ⟨v, h⟩ := S.cl a ha
    have z := (fC a ha v h).2.2
    rcases List.mem_append.mp hb with h | h
    ·exact z.1 h
    ·exact z.2 h
 ·intro a ha
  cases q : Φ.g.get? a with
  | none => rfl
  | some o =>
   have z := notM a (gk a o q).2
   refine mem_M_cases ha (fun h => ?_) (fun h => ?_) (fun h => ?_) fun h => ?_
   ·have := S.gn Φ.L mem_M_L; rw [← h, q] at this; cases this
   ·have := S.gn a (mem_M_cell h); rw [q] at this; cases this
   ·exact absurd h z.1
   ·exact absurd h z.2
 ·intro a ha
  unfold Fx.M at ha
  rcases List.mem_cons.mp ha with h | h
  ·exact h ▸ Heap.lt_size fL.1
  ·rcases List.mem_append.mp h with h | h
   ·obtain ⟨v, hv⟩ := S.cl a h
    obtain ⟨v', o, e, _⟩ := (fC a h v hv).2.1
    exact Heap.lt_size e
   ·refine S'.lt a ?_
    rcases List.mem_append.mp h with h | h
    ·exact mem_M_mut h
    ·exact mem_M_tb (hT.symm ▸ h)
theorem compStart_go {e elt : Expr} {gens : List Comprehension} {sc : Scope} {pos : Pos} {d : Nat} {g : Comprehension} {A : Around} {env : Env} {it acc : Value} {R : Result → Shared → Prop} (he : e = .ListComp elt gens sc pos) (hg : gens[d]? = some g) (ha : g.is_async = 0)
  (h0 : codeAny W.M A (.compLoop e d it acc env) R s)
  (h : wpAny W.M A (pyIter it) (fun it' s' => codeAny W.M A (.compLoop e d it' acc env) R s') (notedBy W.M A env fun x s' => R (.error x) s') s) : codeAny W.M A (.compStart e d it acc env) R s := by
 subst he
 refine codeAny_of_tree ?_
 show wpAny _ _ ((compStart (.ListComp elt gens sc pos) d it acc env).onRaise (fun x => do noteFrame x env; standAt theWindowsPlace)) _ _ s
 refine wpAny_notedAt ?_
 unfold compStart
 have hc : (clausesOf (.ListComp elt gens sc pos))[d]? = some g := hg
 rw [hc]
 simp only [Option.elim, ha, bne_self_eq_false, Bool.false_eq_true, if_false]
 first
  | refine wpAny_bind (wpAny_askSetting (wpAny_ite ?_))
  | refine wpAny_bind (wpAny_pure (wpAny_bind (wpAny_askSetting (wpAny_ite ?_))))
 split
 ·first
   | exact wpAny_bind (wpAny_pure (wpAny_pure (And.intro rfl h0)))
   | exact wpAny_pure (And.intro rfl h0)
 ·first
   | exact wpAny_bind (wpAny_rule (wpAny_bind (wpAny_standAt (wpAny_bind (wpAny_mono h (fun it' s' h' => wpAny_pure (And.intro rfl h')) fun _ _ x => x)))))
   | (refine wpAny_bind (wpAny_rule ?_); show wpAny _ _ (standAt g.iter.pos >>= _) _ _ s; exact wpAny_bind (wpAny_standAt (wpAny_bind (wpAny_mono h (fun it' s' h' => wpAny_pure (And.intro rfl h')) fun _ _ x => x))))
end
end
end
section
section
section
variable {W : Wd} {Φ : Fx} {ρ ρ' : List Cell} {loc : Loc} {H H' : List AO} {s s1 s' : Shared} {tgt : Expr → Prop}
structure CTn (N : Nat) (W : Wd) (Φ : Fx) (e elt : Expr) (gens : List Comprehension) (sc : Scope) (pos : Pos) (g : Comprehension) (cl : List (Str × Addr)) (ys : List Str) (cs : List Nat) (tgt : Expr → Prop) (tf : GF) (tests : TF) (em : Nat → MF) : Prop where
 he : e = .ListComp elt gens sc pos
 hg : ∃ gs, gens = g :: gs
 ha : g.is_async = 0
 B : CB Φ sc cl ys cs
 ht : tgt g.target
 hs : ∀ x, foldedSetIterable g.iter Φ.env x = pure x
 body : ∀ g' C D i0, (cfx Φ sc cl (cNames Φ ys cs) g' C).Ok W → ∃ emit : Sem Unit, (∀ it, compTurn e 0 it (.ref D) (compEnvC sc cl C Φ.env) = TurnT e 0 g it (.ref D) (compEnvC sc cl C Φ.env) emit) ∧
  SA W (cfx Φ sc cl (cNames Φ ys cs) g' C) g.target tf ∧ SC W (cfx Φ sc cl (cNames Φ ys cs) g' C) g.ifs tests ∧ SMn N W (cfx Φ sc cl (cNames Φ ys cs) g' C) (fun ρ => ρ[i0]? = some (D, none)) emit (em i0)
 keepT : ∀ v l l', tf v l = some l' → l'.drop ys.length = l.drop ys.length
 keepE : ∀ i l h l' h', em i l h = some (l', h') → l'.drop ys.length = l.drop ys.length
noncomputable def SQat (N : Nat) (W : Wd) (Φ : Fx) (e : Expr) (tgt : Expr → Prop) (xs : List V) (H' : List AO) (ρ : List Cell) (loc : Loc) (s : Shared) : Prop := ∀ (Q : Value → Shared → Prop) (E : Value → Shared → Prop),
 (∀ s1 ρ', Stp Φ ρ ρ' s s1 → SI W Φ ρ' loc H' s1 → SrcK W (Φ.P ρ' s1.heap) ρ' s1 tgt xs fun X s' => N ≤ s'.toks → Q X s') → wpAny W.M Φ.A (eval e Φ.env) (fun X s1 => wpAny W.M Φ.A (pyIter X) Q E s1) E s
structure CT (W : Wd) (Φ : Fx) (e elt : Expr) (gens : List Comprehension) (sc : Scope) (pos : Pos) (g : Comprehension) (cl : List (Str × Addr)) (ys : List Str) (cs : List Nat) (tgt : Expr → Prop) (qf : QF) (tf : GF) (tests : TF) (em : Nat → MF) : Prop where
 n : CTn 0 W Φ e elt gens sc pos g cl ys cs tgt tf tests em
 q : SQ W Φ g.iter tgt qf
theorem stepC_keep {n : Nat} {tf : GF} {tests : TF} {em : MF} (hT : ∀ v l l', tf v l = some l' → l'.drop n = l.drop n) (hE : ∀ l h l' h', em l h = some (l', h') → l'.drop n = l.drop n) {x l h l' h'} (e : stepC tf tests em x l h = some (l', h')) : l'.drop n = l.drop n := obp e fun l1 e1 e => obp2 e fun b h1 e2 e => by
 cases b with
 | true => exact (hE _ _ _ _ e).trans (hT _ _ _ e1)
 | false => cases e; exact hT _ _ _ e1
theorem compL_keep {n : Nat} {tf : GF} {tests : TF} {em : MF} (hT : ∀ v l l', tf v l = some l' → l'.drop n = l.drop n) (hE : ∀ l h l' h', em l h = some (l', h') → l'.drop n = l.drop n) (xs : List V) : ∀ l h l' h', compL tf tests em xs l h = some (l', h') → l'.drop n = l.drop n :=
 List.rec (motive := fun xs => ∀ l h l' h', compL tf tests em xs l h = some (l', h') → l'.drop n = l.drop n) (fun _ _ _ _ e => congrArg (fun q : Loc × List AO => q.1.drop n) (Option.some.inj e).symm) (fun x xs ih l h l' h' e => obp2 e fun l1 h1 e1 e => (ih _ _ _ _ e).trans (stepC_keep hT hE e1)) xs
noncomputable def rawC (qf : QF) (tf : GF) (tests : TF) (em : Nat → MF) (ys : List Str) (cs : List Nat) : EF := fun loc H => (qf loc H).bind fun p =>
 (compL tf tests (em p.2.length) p.1 (cLoc loc ys cs) (p.2 ++ [.list []])).map fun r => (.ref p.2.length, r.2)
theorem comp_coreN (O : Φ.Ok W) {e elt : Expr} {gens : List Comprehension} {sc : Scope} {pos p0 : Pos} {g : Comprehension} {cl : List (Str × Addr)} {ys : List Str} {cs : List Nat} {xs : List V} {H1 : List AO} {tf : GF} {tests : TF} {em : Nat → MF} {use : Option (Value → Sem Unit)}
  {Q E : Value → Shared → Prop} {v : V} (T : CTn N W Φ e elt gens sc pos g cl ys cs tgt tf tests em) (hq : SQat N W Φ g.iter tgt xs H1 ρ loc s) (S : SI W Φ ρ loc H s) (hf : (compL tf tests (em H1.length) xs (cLoc loc ys cs) (H1 ++ [.list []])).map (fun r => (V.ref H1.length, r.2)) = some (v, H'))
  (k : ∀ s' ρ' D C, Stp Φ ρ ρ' s s' → SI W Φ ρ' loc H' s' → VR (Φ.P ρ' s'.heap) ρ' v (.ref D) → s.heap.get? C = none → (∃ m, s'.heap.Ns C m) → C ∉ Φ.M ρ' → compPost W.M Φ.A E use Q (.ref D) C (.ok .next) s') :
  wpAny W.M Φ.A (comprehension e sc Φ.env p0 (newList []) false (eval g.iter Φ.env) use) Q E s := by
 refine omp2 hf fun loc2 H2 e2 hf => ?_
 cases hf
 have he := T.he
 refine T.hg.elim fun gs hgs => wpAny_comprehension_free (g := g) (gs := gs) (by rw [he]; exact hgs) T.hs T.B.clos T.B.kind T.B.names (hq _ _ fun s1 ρ1 t1 S1 I wr K KM s2 k2 hw hw2 IT hK hN2 => wpAny_newObj_type ?_)
 have k3 : Kp s2 { s2 with heap := s2.heap.push { cls := .type "list", dict := none, data := .seq ([] : List Value).toArray } } := Kp.pushO s2 _
 generalize hs3 : ({ s2 with heap := s2.heap.push { cls := .type "list", dict := none, data := .seq ([] : List Value).toArray } } : Shared) = s3 at k3 ⊢
 have hN23 : s2.toks ≤ s3.toks + ([] : List (Str × Value)).length := by rw [← hs3]; exact Nat.le_refl _
 have hD : s3.heap.get? s2.heap.objs.size = some (lstO [] 0) := by rw [← hs3]; exact Heap.get?_push_size _ rfl
 have hz3 : s3.heap.objs.size = s2.heap.objs.size + 1 := by rw [← hs3]; exact Heap.size_push _ _
 have S3t := (S1.kept k2).add k3 (c := (s2.heap.objs.size, none)) (o := .list []) (cell1 (hz3 ▸ Nat.lt_succ_self _)) cell1_nd (fun P hP => ⟨rfl, [], 0, hD, .nil⟩)
 refine wpAny_newFunctionEnv T.B.nocell (fun y hy => nomatch hy) (fun h4 hns4 hsb4 => ?_) T.B.kind
 have hk4 : ∀ b o, s3.heap.get? b = some o → h4.get? b = some o := fun b o e => hsb4.extBut b o (Nat.ne_of_lt (Heap.lt_size e)) (Heap.get?_push_of_some _ e)
 have nM3 : ∀ b ∈ wr, b ∉ Φ.M (ρ1 ++ [(s2.heap.objs.size, none)]) := fun b hb hm => ((M_append _ b).mp hm).elim (fun h => (S1.has h).elim fun o e => nomatch (get_none_of_size (hw b hb)).symm.trans e) fun h => absurd (hw2 b hb) (List.mem_singleton.mp h ▸ Nat.lt_irrefl _)
 have w3 := SI.wstep S1 (k2.stp.trans S3t.2) S3t.1 (wr := wr) (fun b hb => ⟨get_none_of_size (hw b hb), nM3 b hb⟩) (fun b hb => (IT.nf _ _ hK b hb).imp fun o z => ⟨k3.k _ _ z.1, z.2⟩) (h' := hideAll s3.heap wr) (tk := s3.toks) (fun b o n e => hideAll_get _ e n)
 have hCsz : s3.heap.objs.size = (hideAll s3.heap wr).objs.size := (hideAll_size _ _).symm
 have Cn : s3.heap.objs.size ∉ wr := fun q => absurd (hw2 _ q) (hz3 ▸ Nat.not_lt.mpr (Nat.le_succ _))
 have hns4h : (hideAll h4 wr).Ns s3.heap.objs.size (fun x => List.lookup x ([] : List (Str × Value)).reverse) := hns4.imp fun o => .imp fun es => .imp fun ep z => ⟨hideAll_get _ z.1 Cn, z.2⟩
 have hk4h : ∀ b o, (hideAll s3.heap wr).get? b = some o → (hideAll h4 wr).get? b = some o := fun b o e => hideAll_get _ (hk4 b o (of_hideAll _ e)) fun q => nomatch (hideAll_none _ q).symm.trans e
 have SC := SI.comp (C := s3.heap.objs.size) (tk := s3.toks + ([] : List (Str × Value)).length) hCsz O w3.2.1 T.B hns4h hk4h
 have hi0 : (ρ1 ++ [(s2.heap.objs.size, none)])[H1.length]? = some ((s2.heap.objs.size, none) : Cell) := S1.at_end
 have kp4 : Kp ({ s3 with heap := hideAll h4 wr, toks := s3.toks + ([] : List (Str × Value)).length } : Shared) { s3 with heap := h4, toks := s3.toks + ([] : List (Str × Value)).length } := ⟨fun b o e => of_hideAll _ e, Nat.le_of_eq (hideAll_size _ _), rfl, id⟩
 have kp3 : Kp ({ s3 with heap := hideAll s3.heap wr } : Shared) { s3 with heap := hideAll h4 wr, toks := s3.toks + ([] : List (Str × Value)).length } := ⟨hk4h, by
  show (hideAll s3.heap wr).objs.size ≤ (hideAll h4 wr).objs.size
  rw [hideAll_size, hideAll_size]
  exact hns4.elim fun o z => z.elim fun _ z => z.elim fun _ z => Nat.le_of_lt (Heap.lt_size z.1), rfl, id⟩
 have keep4 := IT.keep _ _ _ hK fun b o e _ => hk4 b o (k3.k b o e)
 refine (T.body _ s3.heap.objs.size s2.heap.objs.size H1.length SC.1).elim fun emit y => (fun go => compStart_go (g := g) he (by rw [hgs]; rfl) T.ha go (IT.self _ _ _ _ _ keep4 go)) (compLoop_goN SC.1 he y.1 (fun _ _ z h => h _ _ z) T.ht y.2.1 y.2.2.1 y.2.2.2 (Nat.le_trans hN2 hN23) hi0 SC.2.1 kp4 (fun b hb => hideAll_none _ hb) (IT.mono (fun a o z => SC.2.2 a o ?_) S3t.2.pre) keep4 e2 fun s' ρ' t5 S5 => ?_)
 ·have z3 := (k2.stp.trans S3t.2).keep a o z.1 z.2
  refine ⟨hideAll_get _ z3.1 fun q => ?_, z3.2⟩
  have := get_none_of_size (hw a q)
  rw [z.1] at this; cases this
 ·have z6 := SI.leaveC hCsz T.B w3.2.1 kp3 t5 S5 (compL_keep T.keepT (T.keepE _) _ _ _ _ _ e2)
  have C3 : s3.heap.objs.size ∉ Φ.M ρ' := fun hm => mem_M_cases hm (fun h => absurd (S3t.1.lt _ mem_M_L) (h ▸ Nat.lt_irrefl _)) (fun h => absurd (S3t.1.lt _ (mem_M_cell h)) (Nat.lt_irrefl _)) S5.p2 S5.p3
  have t03 := t1.trans (k2.stp.trans S3t.2)
  refine k s' ρ' _ _ (t1.trans (w3.1.trans z6.1)) z6.2.1 (.ref (c := (s2.heap.objs.size, none)) (z6.1.pre _ _ hi0)) ?_ (S5.mE fun m5 F5 _ => ⟨m5, F5.ns⟩) C3
  show s.heap.get? s3.heap.objs.size = none
  cases q : s.heap.get? s3.heap.objs.size with
  | none => rfl
  | some o => exact absurd (Heap.lt_size (t03.keep _ _ q fun hm => absurd (S3t.1.lt _ (M_prefix t03.pre hm)) (Nat.lt_irrefl _)).1) (Nat.lt_irrefl _)
noncomputable def fzF (b : Bool) (n0 : Nat) (v : V) (H : List AO) : Option (V × List AO) := if b then frz n0 v H else some (v, H)
theorem SI.fz (S : SI W Φ ρ loc H s) (t : Stp Φ ρ ρ' s s') (S' : SI W Φ ρ' loc H' s') {v u : V} {X : Value} (r : VR (Φ.P ρ' s'.heap) ρ' v X) {b : Bool} {H2 : List AO} (hf : fzF b H.length v H' = some (u, H2)) :
  ∃ ρ2, Stp Φ ρ ρ2 s s' ∧ SI W Φ ρ2 loc H2 s' ∧ VR (Φ.P ρ2 s'.heap) ρ2 u X ∧ ∀ a, a ∈ Φ.M ρ2 → a ∈ Φ.M ρ' := by
 unfold fzF at hf
 cases b with
 | true =>
  simp only [if_true] at hf
  obtain ⟨t2, S2, r2⟩ := SI.freeze S t S' r hf
  exact ⟨ρ, t2, S2, r2, fun a h => M_prefix t.pre h⟩
 | false =>
  simp only [Bool.false_eq_true, if_false] at hf
  cases hf
  exact ⟨ρ', t, S', r, fun _ h => h⟩
noncomputable def compF (b : Bool) (qf : QF) (tf : GF) (tests : TF) (em : Nat → MF) (ys : List Str) (cs : List Nat) : EF := fun loc H => (rawC qf tf tests em ys cs loc H).bind fun p => fzF b H.length p.1 p.2
theorem dict_notFlat {h : Heap} {C : Addr} {m : Str → Option Value} (n : h.Ns C m) : ∃ o, h.get? C = some o ∧ ¬ Flat o := by
 obtain ⟨o, es, ep, e, d, _⟩ := n
 exact ⟨o, e, fun fl => by have fl := fl.1; unfold FlatD at fl; rw [d] at fl; exact fl⟩
theorem CTn.first {N : Nat} {e elt : Expr} {gens : List Comprehension} {sc : Scope} {pos : Pos} {g : Comprehension} {cl : List (Str × Addr)} {ys : List Str} {cs : List Nat} {tf : GF} {tests : TF} {em : Nat → MF} (T : CTn N W Φ e elt gens sc pos g cl ys cs tgt tf tests em) : firstAsync gens = false ∧ firstIter gens Φ.env = eval g.iter Φ.env := T.hg.elim fun gs hgs => by
 have ha := T.ha
 cases g with
 | mk t i f a => exact hgs ▸ (show a = 0 from ha) ▸ ⟨rfl, rfl⟩
theorem comp_core (O : Φ.Ok W) {e elt : Expr} {gens : List Comprehension} {sc : Scope} {pos p0 : Pos} {g : Comprehension} {cl : List (Str × Addr)} {ys : List Str} {cs : List Nat} {qf : QF} {tf : GF} {tests : TF} {em : Nat → MF} {use : Option (Value → Sem Unit)}
  {Q E : Value → Shared → Prop} {v : V} (T : CT W Φ e elt gens sc pos g cl ys cs tgt qf tf tests em) (S : SI W Φ ρ loc H s) (hf : rawC qf tf tests em ys cs loc H = some (v, H'))
  (k : ∀ s' ρ' D C, Stp Φ ρ ρ' s s' → SI W Φ ρ' loc H' s' → VR (Φ.P ρ' s'.heap) ρ' v (.ref D) → s.heap.get? C = none → (∃ m, s'.heap.Ns C m) → C ∉ Φ.M ρ' → compPost W.M Φ.A E use Q (.ref D) C (.ok .next) s') :
  wpAny W.M Φ.A (comprehension e sc Φ.env p0 (newList []) false (eval g.iter Φ.env) use) Q E s := obp2 hf fun xs H1 e1 e2 => comp_coreN O T.n (fun Q E k => T.q _ _ _ _ _ _ _ _ e1 S fun s1 ρ1 t1 S1 I wr K KM s2 k2 w1 w2 IT hK => k s1 ρ1 t1 S1 I wr K KM s2 k2 w1 w2 IT hK (Nat.zero_le _)) S e2 k
theorem SI.fzW (S : SI W Φ ρ loc H s) (t : Stp Φ ρ ρ' s s') (S' : SI W Φ ρ' loc H' s') {v u : V} {X : Value} (r : VR (Φ.P ρ' s'.heap) ρ' v X) {b : Bool} {H2 : List AO} (hf : fzF b H.length v H' = some (u, H2)) {C : Addr} (hC : s.heap.get? C = none) {m : Str → Option Value} (hn : s'.heap.Ns C m) (hCM : C ∉ Φ.M ρ') {h' : Heap} (hs : Heap.SameBut C s'.heap h') :
  ∃ ρ2, Stp Φ ρ ρ2 s { s' with heap := h' } ∧ SI W Φ ρ2 loc H2 { s' with heap := h' } ∧ VR (Φ.P ρ2 h') ρ2 u X := (SI.fz S t S' r hf).imp fun ρ2 y => by
 have z := SI.wstep S y.1 y.2.1 (wr := [C]) (fun c hc => List.mem_singleton.mp hc ▸ ⟨hC, fun q => hCM (y.2.2.2 _ q)⟩) (fun c hc => List.mem_singleton.mp hc ▸ dict_notFlat hn) (h' := h') (tk := s'.toks) (fun c o n e => hs.extBut c o (fun q => n (q ▸ .head _)) e)
 exact ⟨z.1, z.2.1, y.2.2.1.monoF z.2.2 fun _ _ h => h⟩
theorem se_comp (O : Φ.Ok W) {elt : Expr} {gens : List Comprehension} {sc : Scope} {pos : Pos} {g : Comprehension} {cl : List (Str × Addr)} {ys : List Str} {cs : List Nat} {qf : QF} {tf : GF} {tests : TF} {em : Nat → MF} (b : Bool)
  (T : CT W Φ (.ListComp elt gens sc pos) elt gens sc pos g cl ys cs tgt qf tf tests em) : SE W Φ (.ListComp elt gens sc pos) (compF b qf tf tests em ys cs) := fun loc H v H' ρ s Q E hf S k => obp2 hf fun u H1 e1 e2 => by
 rw [eval_ListComp, T.n.first.1, T.n.first.2]
 exact comp_core O T S e1 fun s' ρ' D C t S' r hC hns hCM => hns.imp fun m hn => ⟨hn, fun h' hs => (SI.fzW S t S' r e2 hC hn hCM hs).elim fun ρ2 z => k _ _ _ z.1 z.2.1 z.2.2⟩
theorem wp_compN (O : Φ.Ok W) {elt : Expr} {gens : List Comprehension} {sc : Scope} {pos : Pos} {g : Comprehension} {cl : List (Str × Addr)} {ys : List Str} {cs : List Nat} {xs : List V} {H1 : List AO} {tf : GF} {tests : TF} {em : Nat → MF} (b : Bool)
  (T : CTn N W Φ (.ListComp elt gens sc pos) elt gens sc pos g cl ys cs tgt tf tests em) (hq : SQat N W Φ g.iter tgt xs H1 ρ loc s) (S : SI W Φ ρ loc H s) {v : V} {Q : Value → Shared → Prop} {E : Value → Shared → Prop}
  (hf : ((compL tf tests (em H1.length) xs (cLoc loc ys cs) (H1 ++ [.list []])).map (fun r => (V.ref H1.length, r.2))).bind (fun p => fzF b H.length p.1 p.2) = some (v, H'))
  (k : ∀ X s' ρ', Stp Φ ρ ρ' s s' → SI W Φ ρ' loc H' s' → VR (Φ.P ρ' s'.heap) ρ' v X → Q X s') : wpAny W.M Φ.A (eval (.ListComp elt gens sc pos) Φ.env) Q E s := obp2 hf fun u H1' e1 e2 => by
 rw [eval_ListComp, T.first.1, T.first.2]
 exact comp_coreN O T hq S e1 fun s' ρ' D C t S' r hC hns hCM => hns.imp fun m hn => ⟨hn, fun h' hs => (SI.fzW S t S' r e2 hC hn hCM hs).elim fun ρ2 z => k _ _ _ z.1 z.2.1 z.2.2⟩
theorem sx_assign_comp (O : Φ.Ok W) (i : Nat) {x : Str} {p : Pos} {elt : Expr} {gens : List Comprehension} {sc : Scope} {pos spos : Pos} {g : Comprehension} {cl : List (Str × Addr)} {ys : List Str} {cs : List Nat} {qf : QF} {tf : GF} {tests : TF} {em : Nat → MF} (b : Bool)
  (hn : Φ.names[i]? = some (x, none)) (T : CT W Φ (.ListComp elt gens sc pos) elt gens sc pos g cl ys cs tgt qf tf tests em) (hsw : swapsWith (.ListComp elt gens sc pos) (some (.Name x p)) spos.line Φ.env = pure true) :
  SX W Φ (exec (.Assign [.Name x p] (.ListComp elt gens sc pos) spos) Φ.env) (setF i (compF b qf tf tests em ys cs)) := fun loc H r loc' H' ρ s Q E hf S k => omp2 hf fun u H1 e3 hf => obp2 e3 fun u0 H0 e1 e2 => by
 rw [exec_Assign_Name_used _ _ _ _ hsw]
 refine wpAny_bind (wpAny_standAt (wpAny_bind ?_))
 show wpAny _ _ (do let _ ← comprehension (.ListComp elt gens sc pos) sc Φ.env (firstIterPos gens pos) (newList []) (firstAsync gens) (firstIter gens Φ.env) (some (assign (.Name x p) Φ.env))) _ _ s
 rw [T.n.first.1, T.n.first.2]
 refine wpAny_bind (wpAny_mono (comp_core (Q := fun _ s' => Q .next s') (use := some (assign (.Name x p) Φ.env)) O T S e1 fun s' ρ' D C t S' r hC hns hCM => hns.elim fun m hn' => (SI.fz S t S' r e2).elim fun ρ2 y => ?_) (fun _ s' hq => wpAny_pure (wpAny_pure hq)) fun _ _ e => e)
 show wpAny _ _ (assign (.Name x p) Φ.env (.ref D)) _ _ _
 refine wpAny_assign_Name (wp_store O hn y.2.1 y.2.2.1 (fun h => absurd rfl h) fun s3 t3 S3 => ?_)
 have hn3 : s3.heap.Ns C m := hn'.imp fun o => .imp fun es => .imp fun ep z => ⟨(t3.keep C o z.1 fun q => hCM (y.2.2.2 _ q)).1, z.2⟩
 refine ⟨m, hn3, fun h' hs => ?_⟩
 have z := SI.wstep S (y.1.trans t3) S3 (wr := [C]) (fun c hc => List.mem_singleton.mp hc ▸ ⟨hC, fun q => hCM (y.2.2.2 _ q)⟩) (fun c hc => List.mem_singleton.mp hc ▸ dict_notFlat hn3) (h' := h') (tk := s3.toks) (fun c o n e => hs.extBut c o (fun q => n (q ▸ .head _)) e)
 exact k.of hf _ _ _ z.1 z.2.1 trivial
end
end
end
section
section
section
variable {W : Wd} {Φ : Fx} {ρ ρ' : List Cell} {loc : Loc} {H H' : List AO} {s s1 s' : Shared} {tgt tgt1 : Expr → Prop}
noncomputable def AllC (W : Wd) (Φ : Fx) (sc : Scope) (cl : List (Str × Addr)) (ys : List Str) (cs : List Nat) (P : Fx → Prop) : Prop := ∀ g' C, (cfx Φ sc cl (cNames Φ ys cs) g' C).Ok W → P (cfx Φ sc cl (cNames Φ ys cs) g' C)
noncomputable def KeepsD (n : Nat) (tf : GF) : Prop := ∀ v l l', tf v l = some l' → l'.drop n = l.drop n
theorem keeps_name {n i : Nat} (h : i < n) : KeepsD n (fun v loc => some (loc.set i (some v))) := fun v l l' e => by
 cases e
 rw [List.drop_set]
 simp [h]
theorem emit_keep {i : Nat} {f : EF} {n : Nat} : ∀ l h l' h', emitF i f l h = some (l', h') → l'.drop n = l.drop n := fun l h l' h' e => by
 unfold emitF at e
 refine obp e fun p _ e => ?_
 refine omp e fun q _ e => ?_
 cases e; rfl
theorem turn1 (elt target iter : Expr) (ifs : List Expr) (sc : Scope) (pos : Pos) (it acc : Value) (env : Env) :
  compTurn (.ListComp elt [⟨target, iter, ifs, 0⟩] sc pos) 0 it acc env = TurnT (.ListComp elt [⟨target, iter, ifs, 0⟩] sc pos) 0 ⟨target, iter, ifs, 0⟩ it acc env (do let _ ← call (.builtin "list.append") [acc, ← eval elt env]) := by rfl
theorem ct1 {elt target iter : Expr} {ifs : List Expr} {sc : Scope} {pos : Pos} {cl : List (Str × Addr)} {ys : List Str} {cs : List Nat} {qf : QF} {tf : GF} {tests : TF} {f : EF} (B : CB Φ sc cl ys cs) (ht : tgt target) (q : SQ W Φ iter tgt qf) (hs : ∀ x, foldedSetIterable iter Φ.env x = pure x)
  (hA : AllC W Φ sc cl ys cs fun Ψ => SA W Ψ target tf) (hC : AllC W Φ sc cl ys cs fun Ψ => SC W Ψ ifs tests) (hE : AllC W Φ sc cl ys cs fun Ψ => SE W Ψ elt f) (kT : KeepsD ys.length tf) :
  CT W Φ (.ListComp elt [⟨target, iter, ifs, 0⟩] sc pos) elt [⟨target, iter, ifs, 0⟩] sc pos ⟨target, iter, ifs, 0⟩ cl ys cs tgt qf tf tests (fun i => emitF i f) where
 q := q
 n := ⟨rfl, ⟨[], rfl⟩, rfl, B, ht, hs, fun g' C D i0 OΨ => ⟨_, fun it => turn1 _ _ _ _ _ _ _ _ _, hA g' C OΨ, hC g' C OΨ, (sm_emit (hE g' C OΨ)).n⟩, kT, fun i => emit_keep⟩
noncomputable def T2 (e : Expr) (it1 : Expr) (acc : Value) (env : Env) : Sem Unit := do
 let x ← eval it1 env
 standAt it1.pos
 let x ← foldedSetIterable it1 env x
 let _ ← runOwn (.compStart e 1 (← holding [x] (pyIter x)) acc env) env
theorem turn2a (elt target iter : Expr) (ifs : List Expr) (target1 iter1 : Expr) (ifs1 : List Expr) (sc : Scope) (pos : Pos) (it acc : Value) (env : Env) :
  compTurn (.ListComp elt [⟨target, iter, ifs, 0⟩, ⟨target1, iter1, ifs1, 0⟩] sc pos) 0 it acc env = TurnT (.ListComp elt [⟨target, iter, ifs, 0⟩, ⟨target1, iter1, ifs1, 0⟩] sc pos) 0 ⟨target, iter, ifs, 0⟩ it acc env (T2 (.ListComp elt [⟨target, iter, ifs, 0⟩, ⟨target1, iter1, ifs1, 0⟩] sc pos) iter1 acc env) := by
 unfold compTurn TurnT T2
 simp -iota only [testsT]
 refine congrArg (bind _) (funext fun _ => ?_)
 refine congrArg (bind _) (funext fun r => ?_)
 cases r with
 | none => rfl
 | some v =>
  refine congrArg (bind _) (funext fun _ => ?_)
  refine congrArg (bind _) (funext fun _ => ?_)
  refine congrArg (bind _) (funext fun ok => ?_)
  cases ok <;> simp
theorem turn2b (elt target iter : Expr) (ifs : List Expr) (target1 iter1 : Expr) (ifs1 : List Expr) (sc : Scope) (pos : Pos) (it acc : Value) (env : Env) :
  compTurn (.ListComp elt [⟨target, iter, ifs, 0⟩, ⟨target1, iter1, ifs1, 0⟩] sc pos) 1 it acc env = TurnT (.ListComp elt [⟨target, iter, ifs, 0⟩, ⟨target1, iter1, ifs1, 0⟩] sc pos) 1 ⟨target1, iter1, ifs1, 0⟩ it acc env (do let _ ← call (.builtin "list.append") [acc, ← eval elt env]) := by rfl
noncomputable def innerF (q : QF) (tf : GF) (tests : TF) (em : Nat → MF) (i : Nat) : MF := fun loc H => (q loc H).bind fun p => compL tf tests (em i) p.1 loc p.2
theorem ct2 {elt target iter : Expr} {ifs : List Expr} {target1 iter1 : Expr} {ifs1 : List Expr} {sc : Scope} {pos : Pos} {cl : List (Str × Addr)} {ys : List Str} {cs : List Nat} {qf q1 : QF} {tf tf1 : GF} {tests tests1 : TF} {f : EF} (B : CB Φ sc cl ys cs) (ht : tgt target) (q : SQ W Φ iter tgt qf) (hs : ∀ x, foldedSetIterable iter Φ.env x = pure x)
  (hA : AllC W Φ sc cl ys cs fun Ψ => SA W Ψ target tf) (hC : AllC W Φ sc cl ys cs fun Ψ => SC W Ψ ifs tests) (ht1 : tgt1 target1) (hq1 : AllC W Φ sc cl ys cs fun Ψ => SQ W Ψ iter1 tgt1 q1) (hs1 : AllC W Φ sc cl ys cs fun Ψ => ∀ x, foldedSetIterable iter1 Ψ.env x = pure x)
  (hA1 : AllC W Φ sc cl ys cs fun Ψ => SA W Ψ target1 tf1) (hC1 : AllC W Φ sc cl ys cs fun Ψ => SC W Ψ ifs1 tests1) (hE : AllC W Φ sc cl ys cs fun Ψ => SE W Ψ elt f) (kT : KeepsD ys.length tf) (kT1 : KeepsD ys.length tf1) :
  CT W Φ (.ListComp elt [⟨target, iter, ifs, 0⟩, ⟨target1, iter1, ifs1, 0⟩] sc pos) elt [⟨target, iter, ifs, 0⟩, ⟨target1, iter1, ifs1, 0⟩] sc pos ⟨target, iter, ifs, 0⟩ cl ys cs tgt qf tf tests (innerF q1 tf1 tests1 fun i => emitF i f) where
 q := q
 n := ⟨rfl, ⟨_, rfl⟩, rfl, B, ht, hs, fun g' C D i0 OΨ => ⟨_, fun it => turn2a _ _ _ _ _ _ _ _ _ _ _ _, hA g' C OΨ, hC g' C OΨ, fun loc H loc' H' ρ s Q E _ hf S z k => obp2 hf fun xs H1 e1 e2 => by
  unfold T2
  refine wpAny_bind (wpAny_mono (Q := fun X s1 => wpAny W.M Φ.A (pyIter X) (fun it s2 => wpAny W.M Φ.A (runOwn (.compStart (.ListComp elt [⟨target, iter, ifs, 0⟩, ⟨target1, iter1, ifs1, 0⟩] sc pos) 1 it (.ref D) (compEnvC sc cl C Φ.env)) (compEnvC sc cl C Φ.env)) (fun _ s' => Q () s') E s2) E s1) (hq1 g' C OΨ _ _ _ _ _ _ _ _ e1 S fun s1 ρ1 t1 S1 I wr K KM s2 k2 hw hw2 IT hK => ?_) (fun X s1 h1 => ?_) fun _ _ x => x)
  case refine_2 =>
   refine wpAny_bind (wpAny_standAt (wpAny_bind (wpAny_of_eq (hs1 g' C OΨ X) (wpAny_bind (wpAny_holding (wpAny_mono h1 (fun it s2 h2 => ?_) fun _ _ x => x))))))
   exact wpAny_bind (wpAny_mono h2 (fun _ s3 h3 => wpAny_pure h3) fun _ _ x => x)
  refine wpAny_runOwn (Q := fun _ s' => Q () s') ?_
  have go : codeAny W.M Φ.A (.compLoop (.ListComp elt [⟨target, iter, ifs, 0⟩, ⟨target1, iter1, ifs1, 0⟩] sc pos) 1 (.ref I) (.ref D) (compEnvC sc cl C Φ.env)) (fun r s' => match r with | .ok _ => Q () s' | .error e => cameBackBy W.M Φ.A (compEnvC sc cl C Φ.env) E e s') s2 :=
   compLoop_goN (N := 0) (g := ⟨target1, iter1, ifs1, 0⟩) (Z := fun ρ => ρ[i0]? = some (D, none)) OΨ rfl (fun it => turn2b _ _ _ _ _ _ _ _ _ _ _ _) (fun _ _ z h => h _ _ z) ht1 (hA1 g' C OΨ) (hC1 g' C OΨ) (sm_emit (hE g' C OΨ)).n (Nat.zero_le _) (t1.pre _ _ z) S1 k2 (fun b hb => get_none_of_size (hw b hb)) IT hK e2 fun s' ρ' t5 S5 => k _ _ (t1.trans t5) S5
  exact compStart_go (g := ⟨target1, iter1, ifs1, 0⟩) rfl rfl rfl go (IT.self _ _ _ _ _ hK go)⟩, kT, fun i l h l' h' e => obp2 e fun xs H1 _ e2 => compL_keep kT1 emit_keep _ _ _ _ _ e2⟩
end
end
end
section
section
section
variable {W : Wd} {Φ : Fx} {ρ ρ' : List Cell} {loc : Loc} {H H' : List AO} {s s1 s' : Shared}
theorem SI.keptH (S : SI W Φ ρ loc H s) {h' : Heap} {tk : Nat} (hk : ∀ b o, s.heap.get? b = some o → h'.get? b = some o) : Stp Φ ρ ρ s { s with heap := h', toks := tk } ∧ SI W Φ ρ loc H { s with heap := h', toks := tk } := by
 obtain ⟨t, S', _⟩ := SI.wstep S .refl S (wr := []) (fun b hb => by cases hb) (fun b hb => by cases hb) (h' := h') (tk := tk) (fun b o _ e => hk b o e)
 exact ⟨t, S'⟩
noncomputable def tup2F (f g : GF) : GF := fun v loc => v.pr?.bind fun p => (f p.1 loc).bind fun l => g p.2 l
theorem sa_tup2 (O : Φ.Ok W) {e1 e2 : Expr} {x1} {pos : Pos} {f g : GF} (h1 : SA W Φ e1 f) (h2 : SA W Φ e2 g) (he : assignEach [e1, e2] Φ.env = [(false, assign e1 Φ.env), (false, assign e2 Φ.env)] := by rfl) : SA W Φ (.Tuple [e1, e2] x1 pos) (tup2F f g) := fun loc H v loc' ρ s X Q E hf S hv k => by
 refine obp hf fun p e hf => obp hf fun l1 f1 f2 => ?_
 obtain ⟨a, Y, Z, rfl, hp, r1, r2⟩ := hv.isPr e
 refine wpAny_assign_Tuple (items := #[_, _]) O.hh ⟨_, hp.1, rfl, _, rfl⟩ (by rw [he]; rfl) (by rw [he]; rfl) fun h' hx => ?_
 rw [he]
 obtain ⟨t0, S0⟩ := S.keptH (h' := h') (tk := s.toks) fun b o e => hx b o (Nat.ne_of_lt (Heap.lt_size e)) e
 exact wpAny_bind (wpAny_holding (h1 _ _ _ _ _ _ _ _ _ f1 S0 (t0.mono r1) fun s1 t1 S1 => wpAny_bind (wpAny_holding (h2 _ _ _ _ _ _ _ _ _ f2 S1 (t1.mono (t0.mono r2)) fun s2 t2 S2 => wpAny_pure (k _ ((t0.trans t1).trans t2) S2)))))
theorem keeps_tup2 {n : Nat} {f g : GF} (hf : KeepsD n f) (hg : KeepsD n g) : KeepsD n (tup2F f g) := fun v l l' e => obp e fun p _ e => obp e fun l1 f1 f2 => (hg _ _ _ f2).trans (hf _ _ _ f1)
noncomputable def gasF (f : EF) (g : GF) : SF := fun loc H => (f loc H).bind fun p => (g p.1 loc).map fun l => (.next, l, p.2)
theorem sx_assign_tup {target value : Expr} {pos : Pos} {f : EF} {g : GF} (hv : SE W Φ value f) (ht : SA W Φ target g) (he : (assignEach [target] Φ.env).map (·.2) = [assign target Φ.env] := by rfl)
  (hs : swapsWithSole [target] value pos.line Φ.env = pure false := by rfl) (hw : swappedStores [target] value Φ.env = pure none := by rfl) : SX W Φ (exec (.Assign [target] value pos) Φ.env) (gasF f g) := fun loc H r loc' H' ρ s Q E hf S k => by
 unfold gasF at hf
 refine obp2 hf fun v H1 e1 hf => ?_
 refine omp hf fun l e2 hf => ?_
 replace k := k.of hf
 refine wpAny_Assign_stores (hv _ _ _ _ _ _ _ _ e1 S fun X s1 ρ1 t1 S1 v1 => ?_) hs hw
 rw [he]
 exact ht _ _ _ _ _ _ _ _ _ e2 S1 v1 fun s2 t2 S2 => k _ _ _ (t1.trans t2) S2 trivial
noncomputable def SGm (W : Wd) (name : Str) (fv : Value) (D : List AO → V → Bool) : Prop := ∀ (Φ : Fx), Φ.Ok W → ∀ loc H v ρ s X (Q : Value × List Value → Shared → Prop) (E : Value → Shared → Prop) pl, D H v = true → SI W Φ ρ loc H s → VR (Φ.P ρ s.heap) ρ v X → Q (fv, [X]) s → wpAny W.M Φ.A (getMethod X name pl) Q E s
noncomputable def methF (fo : EF) (D : List AO → V → Bool) (g : LF) (F : List V → List AO → Option (V × List AO)) : EF := fun loc H => (fo loc H).bind fun p => if D p.2 p.1 then (g loc p.2).bind fun q => F (p.1 :: q.1) q.2 else none
theorem se_meth {o : Expr} {name : Str} {apos pos : Pos} {args : List Expr} {fo : EF} {g : LF} {fv : Value} {D : List AO → V → Bool} {F} {n : Nat} {pl : Sem Bool} (O : Φ.Ok W) (hn : n < Φ.lv) (ho : SE W Φ o fo) (hg : SGm W name fv D) (hk : KeepOk W fv) (ha : SL W Φ pos args g) (hp : Plain Φ.env pos args) (hc : CallOk W n fv F)
  (he : eval (.Call (.Attribute o name apos) args [] pos) Φ.env = (do
   let ov ← eval o Φ.env
   standAt apos.atName
   let (f, first) ← holding [ov] (getMethod ov name pl)
   callWith pos f first (backTo pos (starEach args Φ.env)) [])) : SE W Φ (.Call (.Attribute o name apos) args [] pos) (methF fo D g F) := fun loc H v H' ρ s Q E hf S k => by
 unfold methF at hf
 refine obp2 hf fun u H1 e1 hf => ?_
 refine ifo hf fun hD hf => obp2 hf fun us H2 e2 e3 => ?_
 exact MethodCall_ (ho _ _ _ _ _ _ _ _ e1 S fun X s1 ρ1 t1 S1 v1 => hg Φ O _ _ _ _ _ _ _ _ _ hD S1 v1 (wp_args O hk ha hp e2 S1 fun Xs s2 ρ2 t2 S2 v2 => hc Φ O hn _ _ _ _ _ _ _ _ _ _ e3 S2 (.cons (t2.mono v1) v2) fun Y s3 ρ3 t3 S3 v3 => k _ _ _ ((t1.trans t2).trans t3) S3 v3)) he
noncomputable def isStrV (_ : List AO) (v : V) : Bool := v.str?.isSome
theorem isStrV_is {H : List AO} {P : Addr → Obj → Prop} {v : V} {X : Value} (hd : isStrV H v = true) (hv : VR P ρ v X) : ∃ x t, X = .str x t := (Option.isSome_iff_exists.mp hd).imp fun _ e => hv.isStr e
noncomputable def isListV (H : List AO) (v : V) : Bool := (listOf? H v).isSome
theorem sg_join : SGm W "join" (.builtin "str.join") isStrV := fun Φ O loc H v ρ s X Q E pl hd S hv k => by
 obtain ⟨x, t, rfl⟩ := isStrV_is hd hv
 with_reducible exact GM.join k
theorem sg_split : SGm W "split" (.builtin "str.split") isStrV := fun Φ O loc H v ρ s X Q E pl hd S hv k => by
 obtain ⟨x, t, rfl⟩ := isStrV_is hd hv
 with_reducible exact GM.split k
theorem sg_isspace : SGm W "isspace" (.builtin "str.isspace") isStrV := fun Φ O loc H v ρ s X Q E pl hd S hv k => by
 obtain ⟨x, t, rfl⟩ := isStrV_is hd hv
 with_reducible exact GM.isspace k
theorem sg_list {name : Str} {id : String} (slot : Slot "list" name id) (hty : typeOf (.builtin id) = pure (.type "method_descriptor")) : SGm W name (.builtin id) isListV := fun Φ O loc H v ρ s X Q E pl hd S hv k => by
 unfold isListV at hd
 obtain ⟨xs, e⟩ := Option.isSome_iff_exists.mp hd
 obtain ⟨a, vs, n, rfl, ho, hs⟩ := S.list e hv
 exact getMethod_list_of slot hty (isList_of ho) ⟨_, ho, rfl⟩ k
end
end
end
section
section
noncomputable abbrev strV := V.str?
noncomputable abbrev intV := V.int?
noncomputable def strsV : List V → Option (List Str) := allM strV
noncomputable def intsV : List V → Option (List Int) := allM intV
noncomputable def call1F (g : List AO → V → Option V) (args : List V) (H : List AO) : Option (V × List AO) := (one? args).bind fun a => (g H a).map (·, H)
noncomputable def call2F (g : List AO → V → V → Option V) (args : List V) (H : List AO) : Option (V × List AO) := (two? args).bind fun p => (g H p.1 p.2).map (·, H)
noncomputable def C1 (W : Wd) (f : Value) (g : List AO → V → Option V) : Prop := ∀ Φ : Fx, Φ.Ok W → ∀ loc H a u X ρ s (Q : Value → Shared → Prop) (E : Value → Shared → Prop), g H a = some u → SI W Φ ρ loc H s → VR (Φ.P ρ s.heap) ρ a X → SE.K W Φ ρ loc s Q u H → wpAny W.M Φ.A (call f [X]) Q E s
noncomputable def C2 (W : Wd) (f : Value) (g : List AO → V → V → Option V) : Prop := ∀ Φ : Fx, Φ.Ok W → ∀ loc H a b u X Y ρ s (Q : Value → Shared → Prop) (E : Value → Shared → Prop), g H a b = some u → SI W Φ ρ loc H s → VR (Φ.P ρ s.heap) ρ a X → VR (Φ.P ρ s.heap) ρ b Y → SE.K W Φ ρ loc s Q u H → wpAny W.M Φ.A (call f [X, Y]) Q E s
theorem C1.ok {W : Wd} {n : Nat} {f : Value} {g} (h : C1 W f g) : CallOk W n f (call1F g) := fun Φ O hn loc H args v H' Vs ρ s Q E hf S hv k => obp hf fun a e1 hf => omp hf fun u e2 q => (hv.one e1).elim fun X z => by
 rw [z.1]
 exact h Φ O _ _ _ _ _ _ _ _ _ e2 S z.2 (k.of q)
theorem C2.ok {W : Wd} {n : Nat} {f : Value} {g} (h : C2 W f g) : CallOk W n f (call2F g) := fun Φ O hn loc H args v H' Vs ρ s Q E hf S hv k => obp hf fun a e1 hf => omp hf fun u e2 q => (hv.two e1).elim fun X z => z.elim fun Y z => by
 rw [z.1]
 exact h Φ O _ _ _ _ _ _ _ _ _ _ _ e2 S z.2.1 z.2.2 (k.of q)
theorem C1.or {W : Wd} {f : Value} {g g2} (h : C1 W f g) (h2 : C1 W f g2) : C1 W f fun H a => (g H a).or (g2 H a) := fun Φ O _ _ _ _ _ _ _ _ _ e S ha k => (orp e).elim (fun e => h Φ O _ _ _ _ _ _ _ _ _ e S ha k) fun e => h2 Φ O _ _ _ _ _ _ _ _ _ e S ha k
section
variable {W : Wd} {Φ : Fx} {ρ ρ' : List Cell} {loc : Loc} {H H' : List AO} {s s1 s' : Shared} {P : Addr → Obj → Prop}
theorem strsAre_of {xs Xs} (r : VRs P ρ xs Xs) : ∀ {ys}, strsV xs = some ys → StrsAre Xs ys :=
 r.ind (m := fun xs Xs => ∀ {ys}, strsV xs = some ys → StrsAre Xs ys) (fun {_} e => Option.some.inj e ▸ .nil) fun {_ _ _ _} a _ ih {_} e => obp e fun d e1 e => omp e fun ds e2 q => q ▸ (a.isStr e1).elim fun t e => e ▸ .cons _ _ (ih e2)
theorem ints_of {xs Xs} (r : VRs P ρ xs Xs) : ∀ {ns}, intsV xs = some ns → IntsAre Xs ns :=
 r.ind (m := fun xs Xs => ∀ {ys}, intsV xs = some ys → IntsAre Xs ys) (fun {_} e => Option.some.inj e ▸ .nil) fun {_ _ _ _} a _ ih {_} e => obp e fun d e1 e => omp e fun ds e2 q => q ▸ (a.isInt e1).elim fun t e => e ▸ .cons _ _ (ih e2)
theorem vrs_strsFrom : ∀ (tk : Nat) (xs : List Str), VRs P ρ (xs.map V.str) (strsFrom tk xs)
 | _, [] => .nil
 | tk, x :: r => .cons (.str _ _) (vrs_strsFrom (tk + 1) r)
noncomputable def joinF := call2F fun H x v => x.str?.bind fun x => (listOf? H v).bind fun xs => (strsV xs).bind fun ys => if x.length ≤ 16 ∧ (ys.map (·.length)).sum + ys.length ≤ 1048576 then some (.str (Txt.join x ys)) else none
theorem c_join {n : Nat} : CallOk W n (.builtin "str.join") joinF := C2.ok fun Φ O loc H a b u X Y ρ s Q E e S ha hb k => obp e fun x e0 e => obp e fun xs e1 e => obp e fun ys e2 e => ifs e fun hz q => (ha.isStr e0).elim fun t eX => S.listE e1 hb fun a vs m eY ho hs => by
 subst eX eY q
 exact join_listW (isList_of ho) (strsAre_of hs e2) hz.1 hz.2 fun t' tk => k _ _ ρ Kp.toks.stp (S.kept Kp.toks) (.str _ _)
noncomputable def splitF := call2F fun _ x y => x.str?.bind fun x => y.str?.bind fun y => if (y.length == 0) = false ∧ x.length ≤ 1000 ∧ (Builtin.Str.partsBetween x (Builtin.Str.occurrences x y 0 x.length (x.length + 1)) y.length).length ≤ 1000 then some (.lst ((Txt.split x y).map V.str)) else none
theorem c_split {n : Nat} : CallOk W n (.builtin "str.split") splitF := C2.ok fun Φ O loc H a b u X Y ρ s Q E e S ha hb k => obp e fun x e0 e => obp e fun y e1 e => ifs e fun hz q => (ha.isStr e0).elim fun t eX => (hb.isStr e1).elim fun u eY => by
 subst eX eY q
 have fin : ∀ (vs : List Value) tk, VRs (Φ.P ρ s.heap) ρ ((Txt.split x y).map V.str) vs → Q (.ref s.heap.objs.size) { s with heap := s.heap.push { cls := .type "list", data := .seq vs.toArray }, toks := tk } := fun vs tk hvs =>
  have k1 : Kp s { s with heap := s.heap.push (lstO vs 0), toks := tk } := Kp.push
  k _ _ ρ k1.stp (S.kept k1) (.lst (S.got rfl) (k1.stp.monos hvs))
 cases h1 : (decide (x.length < y.length) || decide (Builtin.Str.strKind x < Builtin.Str.strKind y))
 ·cases hf : (Builtin.Str.occurrences x y 0 x.length (x.length + 1)).isEmpty
  ·refine call_meets PySem.F.slot_str_split (typeIs_str _ _ _) PySem.F.entry_str_split (PySem.F.args_str_split_2 _ _) (meets_str_split_sep x y t u h1 hz.1 hf (le_size (Nat.le_trans hz.2.1 (by decide))) (le_size3 hz.2.2)) (fin _ _ ?_)
   rw [show Txt.split x y = _ from (if_neg (ne_true_of_eq_false h1)).trans (if_neg (ne_true_of_eq_false hf))]
   exact vrs_strsFrom _ _
  ·refine call_meets PySem.F.slot_str_split (typeIs_str _ _ _) PySem.F.entry_str_split (PySem.F.args_str_split_2 _ _) (meets_str_split_not_found x y t u h1 hz.1 hf) (fin _ _ ?_)
   rw [show Txt.split x y = [x] from (if_neg (ne_true_of_eq_false h1)).trans (if_pos hf)]
   exact .cons (.str _ _) .nil
 ·refine call_meets PySem.F.slot_str_split (typeIs_str _ _ _) PySem.F.entry_str_split (PySem.F.args_str_split_2 _ _) (meets_str_split_cannot_occur x y t u h1) (fin _ _ ?_)
  rw [show Txt.split x y = [x] from if_pos h1]
  exact .cons (.str _ _) .nil
noncomputable def spaceF := call1F fun _ x => x.str?.map fun x => .bool (x.length > 0 && x.cps.all Unicode.isSpace)
theorem c_space {n : Nat} : CallOk W n (.builtin "str.isspace") spaceF := C1.ok fun Φ O loc H a u X ρ s Q E e S ha k => omp e fun x e0 q => (ha.isStr e0).elim fun t eX => by
 subst eX q
 exact call_gives PySem.F.slot_str_isspace (typeIs_str _ _ _) PySem.F.entry_str_isspace (PySem.F.args_str_isspace_1 _) (gives_str_isspace _ _) (k _ _ ρ .refl S (.bool _))
noncomputable def appF (args : List V) (H : List AO) : Option (V × List AO) := (two? args).bind fun p => p.1.ref?.bind fun i => (appendTo i p.2 H).map (.none, ·)
theorem c_append {n : Nat} : CallOk W n (.builtin "list.append") appF := fun Φ O hn loc H args v H' Vs ρ s Q E hf S hv k => obp hf fun p e1 hf => obp hf fun i e2 hf => omp hf fun H1 e3 q => (hv.two e1).elim fun X z => z.elim fun Y z => (z.2.1.isRef e2).elim fun c y => by
 rw [z.1, y.2]
 exact wp_append S y.1 z.2.2 e3 fun s' t S' => k.of q _ _ _ t S' .none
noncomputable def countF := call2F fun H v y => y.str?.bind fun y => (listOf? H v).bind fun xs => (strsV xs).map fun (ys : List Str) => .int (Spec.countIn (.str y) (ys.map PyData.str))
theorem c_count {n : Nat} : CallOk W n (.builtin "list.count") countF := C2.ok fun Φ O loc H a b u X Y ρ s Q E e S ha hb k => obp e fun y e0 e => obp e fun xs e1 e => omp e fun ys e2 q => (hb.isStr e0).elim fun t eY => S.listE e1 ha fun a vs m eX ho hs => by
 subst eX eY q
 exact count_list_strs (isList_of ho) (strsAre_of hs e2) (k _ _ ρ Kp.toks.stp (S.kept Kp.toks) (.int _ _))
noncomputable def ordF := call1F fun _ x => x.str?.bind fun x => if x.length = 1 then some (.int (x.cps.getD 0 0 : Nat)) else none
theorem c_ord {n : Nat} : CallOk W n (.builtin "ord") ordF := C1.ok fun Φ O loc H a u X ρ s Q E e S ha k => obp e fun x e0 e => ifs e fun hz q => (ha.isStr e0).elim fun t eX => by
 subst eX q
 exact ord_of_one hz (k _ _ ρ Kp.toks.stp (S.kept Kp.toks) (.int _ _))
noncomputable def divmodF := call2F fun _ a b => a.int?.bind fun a => b.int?.bind fun b => if b ≠ 0 ∧ b.natAbs < 1000000 then some (.tup [.int (a.fdiv b), .int (a.fmod b)]) else none
theorem c_divmod {n : Nat} : CallOk W n (.builtin "divmod") divmodF := C2.ok fun Φ O loc H a b u X Y ρ s Q E e S ha hb k => obp e fun a e0 e => obp e fun b e1 e => ifs e fun hz q => (ha.isInt e0).elim fun t eX => (hb.isInt e1).elim fun u eY => by
 subst eX eY q
 have k1 : Kp s { s with heap := s.heap.push (tupO [.int (a.fdiv b) s.toks, .int (a.fmod b) (s.toks + 1)]), toks := s.toks + 1 + 1 } := Kp.push
 exact divmod_int hz.1 (k _ _ ρ k1.stp (S.kept k1) (.tup (S.got rfl) (.cons (.int _ _) (.cons (.int _ _) .nil)))) (.inl (PyProof.noPylong_small (by omega)))
noncomputable def typeF := call1F fun _ x => x.int?.map fun _ => .typ "int"
theorem c_type {n : Nat} : CallOk W n (.type "type") typeF := C1.ok fun Φ O loc H a u X ρ s Q E e S ha k => omp e fun x e0 q => (ha.isInt e0).elim fun t eX => by
 subst eX q
 exact call_type_of (typeIs_int s _ _) (by decide) (k _ _ ρ .refl S (.typ _))
noncomputable def sumF := call1F fun H v => (listOf? H v).bind fun xs => (intsV xs).map fun ns => .int ns.sum
theorem c_sum {n : Nat} : CallOk W n (.builtin "sum") sumF := C1.ok fun Φ O loc H a u X ρ s Q E e S ha k => obp e fun xs e1 e => omp e fun ns e2 q => S.listE e1 ha fun a vs m eX ho hs => by
 subst eX q
 have hi := ints_of hs e2
 refine hi.allInts.items.elim fun xs' hx => ?_
 have hl := isList_of ho
 rw [hx] at hl
 refine sum_intListG O.hh hl fun h' tk t' hk => ?_
 have hn : (numsOf vs.toArray.toList).sum = ns.sum := congrArg List.sum hi.numsOf
 rw [hx, nums_intItems] at hn
 rw [preSum_eq, List.take_of_length_le (by simp), hn]
 have z := S.keptH (h' := h') (tk := tk) hk
 exact k _ _ ρ z.1 z.2 (.int _ _)
noncomputable def lenS (_ : List AO) (v : V) : Option V := v.str?.bind fun x => if x.length ≤ 1000000 then some (.int x.length) else none
noncomputable def lenT (_ : List AO) (v : V) : Option V := v.tup?.bind fun x => if x.length ≤ 1000000 then some (.int x.length) else none
noncomputable def lenL (H : List AO) (v : V) : Option V := (listOf? H v).bind fun x => if x.length ≤ 1000000 then some (.int x.length) else none
noncomputable def lenF := call1F fun H v => (lenS H v).or ((lenT H v).or (lenL H v))
theorem c_len {n : Nat} : CallOk W n (.builtin "len") lenF := C1.ok (.or (fun Φ O loc H a u X ρ s Q E e S ha k => obp e fun x e0 e => ifs e fun hz q => (ha.isStr e0).elim fun t eX => by
  subst eX q
  exact P.len_str (by omega) (k _ _ ρ Kp.toks.stp (S.kept Kp.toks) (.int _ _)))
 (.or (fun Φ O loc H a u X ρ s Q E e S ha k => obp e fun x e0 e => ifs e fun hz q => (ha.isTup e0).elim fun a z => z.elim fun vs z => by
  rw [z.1]
  have e := z.2.2.length
  exact len_tuple ⟨_, z.2.1.1, rfl, _, rfl⟩ (by rw [List.size_toArray]; omega) (k _ _ ρ Kp.toks.stp (S.kept Kp.toks) (q ▸ (show x.length = vs.toArray.size from e) ▸ .int _ _)))
 fun Φ O loc H a u X ρ s Q E e S ha k => obp e fun x e0 e => ifs e fun hz q => S.listE e0 ha fun a vs m eX ho hs => by
  subst eX
  have e := hs.length
  exact len_list (isList_of ho) (by rw [List.size_toArray]; omega) (k _ _ ρ Kp.toks.stp (S.kept Kp.toks) (q ▸ (show x.length = vs.toArray.size from e) ▸ .int _ _))))
end
end
end
section
open PySem.Builtin.ObjectAttr (storeInOwnDict)
section
section
variable {W : Wd} {Φ : Fx} {ρ ρ' : List Cell} {loc : Loc} {H H' : List AO} {s s1 s' : Shared} {P : Addr → Obj → Prop}
noncomputable def instA (o : AO) : Option (Addr × Option (List V) × List (Str × V)) := AO.casesOn o (fun _ => none) fun C sq fs => some (C, sq, fs)
theorem instA_is {o : AO} {C sq fs} (h : instA o = some (C, sq, fs)) : o = .inst C sq fs := by
 cases o with
 | list => exact nn h
 | inst => cases h; rfl
noncomputable def instOf? (H : List AO) (v : V) : Option (Nat × Addr × Option (List V) × List (Str × V)) := v.ref?.bind fun i => H[i]?.bind fun o => (instA o).map fun q => (i, q)
noncomputable def DataR (P : Addr → Obj → Prop) (ρ : List Cell) (sq : Option (List V)) (d : Data) : Prop := Option.casesOn sq (d = .plain) fun xs => ∃ vs k, d = .seq (List.toArray vs) k ∧ VRs P ρ xs vs
theorem DataR.mono {P P' : Addr → Obj → Prop} {ρ ρ' : List Cell} {sq d} (z : DataR P ρ sq d) (hp : ∀ a o, P a o → P' a o) (hr : ∀ (i : Nat) c, ρ[i]? = some c → ρ'[i]? = some c) : DataR P' ρ' sq d := by
 cases sq with
 | none => exact z
 | some xs => exact z.imp fun vs => .imp fun k z => ⟨z.1, z.2.mono hp hr⟩
theorem OR.instR {w : World} {h : Heap} {c : Cell} {C sq fs} (z : OR w h P ρ c (.inst C sq fs)) : ∃ d data es n, c.2 = some d ∧ h.get? c.1 = some ⟨.ref C, some d, data, #[]⟩ ∧ DataR P ρ sq data ∧ h.get? d = some (dictOf es n) ∧ FRs w P ρ fs es := by
 cases sq with
 | none => exact z.elim fun d z => z.elim fun es z => z.elim fun n z => ⟨d, _, es, n, z.1, z.2.1, rfl, z.2.2⟩
 | some xs => exact z.elim fun d z => z.elim fun es z => z.elim fun n z => z.elim fun vs z => z.elim fun k z => ⟨d, _, es, n, z.1, z.2.1, ⟨vs, k, rfl, z.2.2.1⟩, z.2.2.2⟩
theorem OR.ofInst {w : World} {h : Heap} {c : Cell} {C : Addr} {sq : Option (List V)} {fs d data es n} (h0 : c.2 = some d) (h1 : h.get? c.1 = some ⟨.ref C, some d, data, #[]⟩) (h2 : DataR P ρ sq data) (h3 : h.get? d = some (dictOf es n)) (h4 : FRs w P ρ fs es) : OR w h P ρ c (.inst C sq fs) := by
 cases sq with
 | none => exact ⟨d, es, n, h0, (show data = .plain from h2) ▸ h1, h3, h4⟩
 | some xs => exact h2.elim fun vs z => z.elim fun k z => ⟨d, es, n, vs, k, h0, z.1 ▸ h1, z.2, h3, h4⟩
structure InstR (w : World) (h : Heap) (P : Addr → Obj → Prop) (ρ : List Cell) (i : Nat) (x d : Addr) (C : Addr) (sq : Option (List V)) (fs : List (Str × V)) (data : Data) (es : List DictEntry) (n : Nat) : Prop where
 cell : ρ[i]? = some (x, some d)
 obj : h.get? x = some ⟨.ref C, some d, data, #[]⟩
 dict : h.get? d = some (dictOf es n)
 data : DataR P ρ sq data
 fs : FRs w P ρ fs es
theorem InstR.at {w : World} {h : Heap} {i : Nat} {x d C : Addr} {sq : Option (List V)} {fs : List (Str × V)} {data : Data} {es : List DictEntry} {n : Nat} (I : InstR w h P ρ i x d C sq fs data es n) : InstAt h x ⟨.ref C, some d, data, #[]⟩ C (some (dictOf es n)) := by
 refine ⟨I.obj, rfl, ?_, I.dict⟩
 have z := I.data
 cases sq with
 | none => exact (show data = .plain from z) ▸ rfl
 | some xs => exact z.elim fun vs z => z.elim fun k z => z.1 ▸ rfl
theorem SI.inst (S : SI W Φ ρ loc H s) {v : V} {X : Value} {i : Nat} {C : Addr} {sq : Option (List V)} {fs : List (Str × V)} (h : instOf? H v = some (i, C, sq, fs)) (r : VR (Φ.P ρ s.heap) ρ v X) :
  ∃ x d data es n, X = .ref x ∧ v = .ref i ∧ H[i]? = some (.inst C sq fs) ∧ InstR W.w s.heap (Φ.P ρ s.heap) ρ i x d C sq fs data es n := obp h fun j e1 h => obp h fun o hx h => omp h fun q e2 e3 => by
 have e4 := Prod.mk.inj e3
 have e5 := instA_is (e2.trans (congrArg some e4.2))
 exact (r.isRef e1).elim fun c y => (OR.instR (e5 ▸ S.hp.2 _ _ _ y.1 hx)).elim fun d z => z.elim fun data z => z.elim fun es z => z.elim fun n z => ⟨c.1, d, data, es, n, y.2, e4.1 ▸ V.ref?_is e1, e4.1 ▸ e5 ▸ hx, e4.1 ▸ (show c = (c.1, some d) from Prod.ext rfl z.1) ▸ y.1, z.2.1, z.2.2.2.1, z.2.2.1, z.2.2.2.2⟩
noncomputable def FindR (P : Addr → Obj → Prop) (ρ : List Cell) (a : Option V) (b : Option DictEntry) : Prop := Option.casesOn a (b = none) fun v => ∃ en, b = some en ∧ VR P ρ v en.val
theorem FRs.find {w : World} {fs es} (h : FRs w P ρ fs es) (x : Str) : FindR P ρ (fs.lookup x) (es.find? (·.key.isStr x)) :=
 FRs.rec (motive := fun fs es _ => FindR P ρ (fs.lookup x) (es.find? (·.key.isStr x))) rfl (fun {y v t V fs es} hv _ ih => by
  show FindR P ρ (match x == y with | true => some v | false => fs.lookup x) (match y == x with | true => some _ | false => es.find? (·.key.isStr x))
  rw [BEq.comm (a := y)]
  cases x == y with
  | true => exact ⟨_, rfl, hv⟩
  | false => exact ih) h
theorem FRs.get {w : World} {fs es} (h : FRs w P ρ fs es) {x v} (e : fs.lookup x = some v) : ∃ X, getL x es = some (some X) ∧ VR P ρ v X := by
 have z := h.find x
 rw [e] at z
 exact z.elim fun en z => ⟨en.val, by unfold getL; rw [z.1], z.2⟩
theorem FRs.noRef {w : World} {fs es} (h : FRs w P ρ fs es) : es.any (·.refKey) = false := FRs.rec (motive := fun fs es _ => es.any (·.refKey) = false) rfl (fun _ _ ih => ih) h
theorem FRs.getL_none {w : World} {fs es} (h : FRs w P ρ fs es) {x} (e : fs.lookup x = none) : getL x es = some none := by
 have z := h.find x
 rw [e] at z
 unfold getL
 rw [show es.find? (·.key.isStr x) = none from z, h.noRef]
 rfl
theorem FRs.getL_some {w : World} {fs es} (h : FRs w P ρ fs es) (x) : (getL x es).isSome = true := by
 cases q : fs.lookup x with
 | none => rw [h.getL_none q]; rfl
 | some v => exact (h.get q).elim fun X e => e.1 ▸ rfl
noncomputable def putF (x : Str) (v : V) : List (Str × V) → List (Str × V)
 | [] => [(x, v)]
 | (y, u) :: r => if y == x then (y, v) :: r else (y, u) :: putF x v r
theorem FRs.put {w : World} {fs es} (r : FRs w P ρ fs es) {x v X tk} (h : VR P ρ v X) : FRs w P ρ (putF x v fs) (putL x (PyData.keyHash w.params x) (.str x tk) X es) :=
 FRs.rec (motive := fun fs es _ => FRs w P ρ (putF x v fs) (putL x (PyData.keyHash w.params x) (.str x tk) X es)) (.cons h .nil) (fun {y u t U fs es} hv hs ih => by
  show FRs w P ρ (if y == x then (y, v) :: fs else (y, u) :: putF x v fs) (if y == x then ⟨_, _, X⟩ :: es else ⟨_, _, U⟩ :: putL x _ _ X es)
  cases y == x with
  | true => exact .cons h hs
  | false => exact .cons hv ih) r
theorem handed_vr {v : V} {X : Value} (r : VR P ρ v X) : handedIn X = true := VR.casesOn (motive_1 := fun _ X _ => handedIn X = true) r rfl (fun _ => rfl) (fun _ _ => rfl) (fun _ _ => rfl) (fun _ => rfl) (fun _ h => h) (fun _ _ => rfl) (fun _ _ => rfl) (fun _ => rfl) (fun _ => rfl)
noncomputable def attrF (fo : EF) (C : Addr) (x : Str) : EF := fun loc H => (fo loc H).bind fun p => (instOf? p.2 p.1).bind fun q => if q.2.1 == C then (q.2.2.2.lookup x).map (·, p.2) else none
noncomputable def GetOk (W : Wd) (C : Addr) (x : Str) : Prop := ∀ (A : Around) (h : Shared) ox (es : List DictEntry) n a X expr (Q : Value → Shared → Prop) (E : Value → Shared → Prop), W.K.In h.heap → InstAt h.heap a ox C (some (dictOf es n)) → A.handled = none → getL x es = some (some X) → handedIn X = true → (∀ tk, Q X { h with toks := tk }) → wpAny W.M A (getAttr (.ref a) x expr) Q E h
theorem getOk_plain {C : Addr} {x : Str} (hg : plainGet W.K C x = true) (hh : hasDictIn W.K C = true) (ha : findIn W.K (.ref C) x = some none) : GetOk W C x := fun A h ox es n a X expr Q E KI I hA hl hv k =>
 get_value KI I (plainGet_of hg).1 (findObj_own hh ha rfl hl) hv (k _)
noncomputable def SetOk (W : Wd) (C : Addr) (x : Str) : Prop := ∀ (A : Around) (h : Shared) ox (es : List DictEntry) n a d X (Q : Unit → Shared → Prop) (E : Value → Shared → Prop), W.K.In h.heap → InstAt h.heap a ox C (some (dictOf es n)) → ox.dict = some d → A.handled = none → (getL x es).isSome = true → es.length ≤ 900 →
 (∀ h' tk tk2, Heap.SameBut d h.heap h' → h'.get? d = some (dictOf (putL x (PyData.keyHash W.w.params x) (.str x tk) X es) (putN x es n)) → Q () { h with heap := h', toks := tk2 }) → wpAny W.M A (setAttr (.ref a) x X) Q E h
theorem putL_len (x : Str) (hs : Int) (k v : Value) : ∀ es : List DictEntry, (putL x hs k v es).length ≤ es.length + 1
 | [] => Nat.le_refl _
 | e :: r => by
  unfold putL
  split
  ·simp
  ·have := putL_len x hs k v r
   simp only [List.length_cons]; omega
theorem osa_raw {A : Around} {K : Frag} {prog : Program} {w : World} {s : Shared} {C a d : Addr} {ox : Obj} {es : List DictEntry} {n : Nat} {x : Str} {tk : Tok} {v : Value} {R : Result → Shared → Prop} {b : Bool} (X : K.In s.heap) (I : InstAt s.heap a ox C (some (dictOf es n))) (hd : ox.dict = some d)
  (hh : (clsIn K C).any (·.hasDict) = true) (hl : (getL x es).isSome = true) (hz : es.length ≤ 900)
  (h : ∀ h', Heap.SameBut d s.heap h' → h'.get? d = some (dictOf (putL x (PyData.keyHash w.params x) (.str x s.toks) v es) (putN x es n)) → R (.ok (.ret .none)) { s with heap := h', toks := s.toks + 1 }) :
  wpAny (model prog w) A.in1 (storeInOwnDict (.ref a) (.ref C) (.str x tk) x v b) (fun fin s' => match fin with | .done f => R (.ok f) s' | .again c' => c'.quiet = true ∧ codeAny (model prog w) A c' R s') (fun e s' => R (.error e) s') s := by
 obtain ⟨cd, hc, hd'⟩ := any_some hh
 obtain ⟨hx, hcl, hn, D⟩ := I
 obtain ⟨oc, odi, oda, osl⟩ := ox
 dsimp only at hcl hd D
 subst hcl hd
 have e2 := putName_dict x (PyData.keyHash w.params x) (.str x s.toks) v es n
 have D' : (s.heap.update d (Obj.putName x (PyData.keyHash w.params x) (.str x s.toks) v)).get? d = some (dictOf (putL x (PyData.keyHash w.params x) (.str x s.toks) v es) (putN x es n)) := by
  rw [Heap.get?_update_self _ D (by rw [e2]; rfl), e2]
 have hsb : Heap.SameBut d s.heap (s.heap.update d (Obj.putName x (PyData.keyHash w.params x) (.str x s.toks) v)) := Heap.SameBut.update ..
 refine wpAny_bind (wpAny_pure (wpAny_bind (wpAny_bind (wpAny_loadPart hx (wpAny_bind ((looks_clsIn X hc).here ?_))))))
 rw [hd']
 refine wpAny_pure (a := some d) (wpAny_bind (wpAny_pure (wpAny_bind ?_)))
 unfold nsSet
 refine wpAny_bind (wpAny_bind (wpAny_askSetting (wpAny_pure (wpAny_bind (wpAny_mkText (wpAny_bind (wpAny_loadPart D ?_)))))))
 dsimp only
 have c : (!es.any (·.key.isStr x) && es.any (·.refKey)) = false := by
  unfold getL at hl
  split at hl
  ·rename_i en he
   rw [List.any_eq_true.mpr ⟨en, List.mem_of_find?_eq_some he, List.find?_some he⟩]; rfl
  ·split at hl
   ·cases hl
   ·rename_i z; rw [Bool.not_eq_true] at z; rw [z, Bool.and_false]
 have c' : (!es.toArray.any (·.key.isStr x) && es.toArray.any (·.refKey)) = false := by
  rw [← Array.any_toList, ← Array.any_toList]; exact c
 rw [aRefKeyMayBeTheName_at, c']
 refine wpAny_updatePart D ?_
 have hl2 := putL_len x (PyData.keyHash w.params x) (.str x s.toks) v es
 refine wpAny_bind (wpAny_lookBehind D' (pastItsLine_dict (by rw [List.size_toArray, sizeLine_eq]; omega)) ?_)
 exact wpAny_pure (h _ hsb D')
end
end
end
section
open PySem.Builtin.ObjectAttr
section
section
variable {W : Wd} {Φ : Fx} {ρ ρ' : List Cell} {loc : Loc} {H H' : List AO} {s s1 s' : Shared} {P : Addr → Obj → Prop}
theorem getOk_sub {C : Addr} {x : Str} (hga : findIn W.K (.ref C) "__getattribute__" = some (some (.builtin "list.__getattribute__"))) (hk : findIn W.K (.ref C) "__getattr__" = some none) (hm : mroIn W.K C (.type "list") = some true)
  (hh : hasDictIn W.K C = true) (ha : findIn W.K (.ref C) x = some none) : GetOk W C x := fun A h ox es n a X expr Q E KI I hA hl hv k => by
 obtain ⟨hp, g, d, t, os⟩ := h
 have L0 := I.type (M := W.M)
 have L1 := looks_findIn (M := W.M) KI hga
 have L2 := looks_findIn (M := W.M) KI hk
 have L3 := looks_find (M := W.M) KI I (findObj_own hh ha rfl hl)
 unfold getAttr getAttrBy
 refine wpAny_bind (wpAny_mkText (wpAny_holding (wpAny_bind (L0.at (wpAny_bind (L1.at ?_))))))
 show wpAny _ _ (getAttrByItsOwn (.ref a) (.str x t) (.ref C) (.builtin "list.__getattribute__") true expr) _ _ _
 unfold getAttrByItsOwn hookBefore callGetattribute boundAndCalled
 refine wpAny_bind ?_
 show wpAny _ _ (typeLookup (.ref C) "__getattr__") _ _ _
 refine L2.at ?_
 refine wpAny_bind (wpAny_attempt (wpAny_holding ?_))
 have e1 : (expr && onTheHeap (.builtin "list.__getattribute__")) = false := by cases expr <;> rfl
 rw [e1]
 show wpAny _ _ (bindSpecial (.builtin "list.__getattribute__") (.ref a) >>= _) _ _ _
 refine wpAny_bind (wpAny_of_eq (PySem.F.slot_list_getattribute.bind _) ?_)
 refine wpAny_mono (Q := fun v s' => v = X ∧ s' = ⟨hp, g, d, t + 1, os⟩) (E := fun _ _ => False) (call_sub (owner := "list") (n := "__getattribute__") (.inl (by decide +kernel)) (by decide +kernel) PySem.F.slot_list_getattribute.plain PySem.F.entry_list_ga (inst_looks KI I hm) (PySem.F.args_list_getattribute_2 _ _) ?_) (fun v s' hv' => ?_) fun _ _ z => z.elim
 ·refine wpAny_bind (wpAny_pure (wpAny_bind (wpAny_pure (wpAny_bind (L0.at (wpAny_bind (L3.at ?_)))))))
  exact wpAny_pure ⟨_, rfl, rfl, rfl⟩
 ·obtain ⟨rfl, rfl⟩ := hv'
  show wpAny _ _ (handedOut v) _ _ _
  rw [handedOut_of hv]
  exact wpAny_pure (k _)
theorem refuse_list (self : Value) : refuseLoop self "__setattr__" [.type "list", .type "object"] = pure () := by kernel_rfl
theorem osa_sub {A : Around} {K : Frag} {prog : Program} {w : World} {s : Shared} {C x : Addr} {ox : Obj} {od : Option Obj} {name : Str} {tk : Tok} {v : Value} {R : Result → Shared → Prop} (X : K.In s.heap) (I : InstAt s.heap x ox C od) {cd : ClassData} (hc : clsIn K C = some cd) (hmro : cd.mro = [.ref C, .type "list", .type "object"])
  (ht : takerIn K C name = some none)
  (h : ∀ b, wpAny (model prog w) A.in1 (storeInOwnDict (.ref x) (.ref C) (.str name tk) name v b)
   (fun fin s' => match fin with | .done f => R (.ok f) s' | .again c' => c'.quiet = true ∧ codeAny (model prog w) A c' R s') (fun e s' => R (.error e) s') s) :
  codeAny (model prog w) A (.call (.builtin "object.__setattr__") ⟨[.ref x, .str name tk, v], []⟩) R s := by
 have SF := PySem.F.store_object
 have sub : Looks (model prog w) s.heap (isInstance (.ref x) (.type "object")) true := I.type.andThen (looks_mroIn X (by unfold mroIn; rw [hc, Option.bind_some, if_neg (by rw [hmro]; intro h; cases h), hmro]; rfl))
 refine codeAny_call_builtin SF.slot.plain SF.entry (@check_slot (model prog w) _ _ s "object.__setattr__" "object" "__setattr__" (.ref x) [.str name tk, v] [] _ SF.kind SF.split sub (SF.args (.ref x) (.str name tk) v) ?_)
 refine obp ht fun attr ha hr => ?_
 have hm : Looks (model prog w) s.heap (mroOf (.ref C)) cd.mro := (looks_clsIn X hc).andThen .now
 have L3 : Looks (model prog w) s.heap (storeTaker? attr) none := by
  cases attr with
  | none => exact .now
  | some a =>
   refine omp hr fun b hb e => ?_
   refine (looks_takesIn X hb).andThen ?_
   cases b with
   | true => cases e
   | false => exact .now
 rw [osa_eq, refuse_eq]
 refine wpAny_bind (wpAny_bind (I.type.here (wpAny_bind (hm.here ?_))))
 rw [hmro, refuseLoop_ref, refuse_list]
 refine wpAny_pure (wpAny_bind (I.type.here (wpAny_bind ((looks_findIn X ha).here (wpAny_bind (L3.here ?_))))))
 exact h _
theorem setOk_plain {C : Addr} {x : Str} (hs : findIn W.K (.ref C) "__setattr__" = some (some (.builtin "object.__setattr__"))) (hp : plainOver W.K C = true) (ht : takerIn W.K C x = some none) (hh : (clsIn W.K C).any (·.hasDict) = true) : SetOk W C x :=
 fun A h ox es n a d X Q E KI I hd hA hl hz k => set_plain KI I hs (osa_open (s := { h with toks := h.toks + 1 }) KI I hp ht fun b => osa_raw (R := fun r s' => match r with | .ok (.ret _) => Q () s' | .ok _ => False | .error e => E e s') (s := { h with toks := h.toks + 1 }) KI I hd hh hl hz fun h' h1 h2 => k h' _ _ h1 h2)
theorem setOk_sub {C : Addr} {x : Str} (hs : findIn W.K (.ref C) "__setattr__" = some (some (.builtin "object.__setattr__"))) {cd : ClassData} (hc : clsIn W.K C = some cd) (hmro : cd.mro = [.ref C, .type "list", .type "object"]) (ht : takerIn W.K C x = some none) (hh : (clsIn W.K C).any (·.hasDict) = true) : SetOk W C x :=
 fun A h ox es n a d X Q E KI I hd hA hl hz k => set_plain KI I hs (osa_sub (s := { h with toks := h.toks + 1 }) KI I hc hmro ht fun b => osa_raw (R := fun r s' => match r with | .ok (.ret _) => Q () s' | .ok _ => False | .error e => E e s') (s := { h with toks := h.toks + 1 }) KI I hd hh hl hz fun h' h1 h2 => k h' _ _ h1 h2)
noncomputable def setattrF (f fo : EF) (C : Addr) (x : Str) : SF := fun loc H => (f loc H).bind fun p => (fo loc p.2).bind fun o => (instOf? o.2 o.1).bind fun q => if (q.2.1 == C) && decide (q.2.2.2.length ≤ 800) then some (.next, loc, o.2.set q.1 (.inst q.2.1 q.2.2.1 (putF x p.1 q.2.2.2))) else none
theorem FRs.length {w : World} {fs es} (h : FRs w P ρ fs es) : fs.length = es.length := FRs.rec (motive := fun fs es _ => fs.length = es.length) rfl (fun _ _ ih => congrArg (· + 1) ih) h
theorem InstR.ne (S : SI W Φ ρ loc H s) {i : Nat} {x d : Addr} (e : ρ[i]? = some (x, some d)) : x ≠ d := fun q => (List.append_of_mem (List.mem_of_getElem? e)).elim fun l1 z => z.elim fun l2 e2 => by
 have nd := S.p7
 rw [e2, mutA_append] at nd
 exact (List.nodup_cons.mp (List.nodup_append.mp (List.nodup_append.mp nd).2.1).1).1 (q ▸ .head _)
theorem SI.updSeq (S : SI W Φ ρ loc H s) {i : Nat} {x d C : Addr} {sq fs as k es n} (I : InstR W.w s.heap (Φ.P ρ s.heap) ρ i x d C sq fs (.seq as k) es n) {h' : Heap} {ys : List V} {ws : List Value} {n' tk : Nat} (hsb : Heap.SameBut x s.heap h') (hg : h'.get? x = some ⟨.ref C, some d, .seq (List.toArray ws) n', #[]⟩) (hv : VRs (Φ.P ρ s.heap) ρ ys ws) :
  SI W Φ ρ loc (H.set i (.inst C (some ys) fs)) { s with heap := h', toks := tk } ∧ Stp Φ ρ ρ s { s with heap := h', toks := tk } := by
 have pm : ∀ b o, Φ.P ρ s.heap b o → Φ.P ρ h' b o := fun b o z => SI.mono_but (mem_M_mut (mem_mutA I.cell (.head _))) hsb.extBut z
 exact S.upd (o' := .inst C (some ys) fs) (tk := tk) I.cell (.head _) hsb (seq_nofields I.obj rfl) ⟨d, es, n, ws, n', rfl, hg, hv.mono pm fun _ _ h => h, hsb.extBut d _ (Ne.symm (InstR.ne S I.cell)) I.dict, I.fs.mono pm fun _ _ h => h⟩
theorem sx_setattr {o value : Expr} {x : Str} {apos pos : Pos} {f fo : EF} {C : Addr} (O : Φ.Ok W) (hv : SE W Φ value f) (ho : SE W Φ o fo) (hs : SetOk W C x) (hsw : swapsWith value (some (.Attribute o x apos)) pos.line Φ.env = pure false) :
  SX W Φ (exec (.Assign [.Attribute o x apos] value pos) Φ.env) (setattrF f fo C x) := fun loc H r loc' H' ρ s Q E hf S k => obp2 hf fun v H1 e1 hf => obp2 hf fun u H2 e2 hf => obp4 hf fun i C' sq fs e3 hf => ifs hf fun hC q => by
 have hC := Bool.and_eq_true_iff.mp hC
 have hC2 : fs.length ≤ 800 := of_decide_eq_true hC.2
 have hCC : C' = C := eq_of_beq hC.1
 subst hCC
 refine plainObj_wpAny_Assign_Attribute (hv _ _ _ _ _ _ _ _ e1 S fun X s1 ρ1 t1 S1 v1 => ho _ _ _ _ _ _ _ _ e2 S1 fun Y s2 ρ2 t2 S2 v2 => (S2.inst e3 v2).elim fun a z => z.elim fun d z => z.elim fun data z => z.elim fun es z => z.elim fun n z => ?_) hsw
 rw [z.1]
 have I := z.2.2.2
 have hlen := I.fs.length
 refine hs _ _ _ _ _ _ d _ _ _ (S2.KI O) I.at rfl O.hh (I.fs.getL_some _) (by omega) fun h' tk tk2 hsb hd' => ?_
 have dm : d ∈ cellAs (a, some d) := .tail _ (.head _)
 have pm : ∀ b o, Φ.P ρ2 s2.heap b o → Φ.P ρ2 h' b o := fun b o z => SI.mono_but (mem_M_mut (mem_mutA I.cell dm)) hsb.extBut z
 have w := S2.upd (tk := tk2) I.cell dm hsb (fun y hy ws q => by cases hy.symm.trans I.dict; cases q) (OR.ofInst (C := C') rfl (hsb.extBut a _ (InstR.ne S2 I.cell) I.obj) (I.data.mono pm fun _ _ h => h) hd' ((I.fs.mono pm fun _ _ h => h).put (x := x) (tk := tk) ((t2.mono v1).mono pm fun _ _ h => h)))
 exact k.of q _ _ _ ((t1.trans t2).trans w.2) w.1 trivial
end
end
end
section
section
structure SubOk (K : Frag) (C : Addr) : Prop where
 isList : mroIn K C (.type "list") = some true
 noDeque : mroIn K C (.type "collections.deque") = some false
 getitem : findIn K (.ref C) "__getitem__" = some (some (.builtin "list.__getitem__"))
 setitem : findIn K (.ref C) "__setitem__" = some (some (.builtin "list.__setitem__"))
 iter : findIn K (.ref C) "__iter__" = some (some (.builtin "list.__iter__"))
section
variable {prog : Program} {w : World} {A : Around} {E : Value → Shared → Prop} {s : Shared} {K : Frag} {x C : Addr} {ox : Obj} {od : Option Obj}
theorem special_sub {name : Str} {id n : String} {b : Builtin} {args : List Value} {Q : Option Value → Shared → Prop} (X : K.In s.heap) (I : InstAt s.heap x ox C od) (hm : mroIn K C (.type "list") = some true) (hf : findIn K (.ref C) name = some (some (.builtin id)))
  (slot : Slot "list" name id) (hk : builtinKind id = some .slot ∨ builtinKind id = some .method) (hs : splitId id = some ("list", n)) (hb : entryFor table id = some b) (ha : argsOk id ⟨.ref x :: args, []⟩)
  (hc : wpAny (model prog w) A.in1 (b ⟨.ref x :: args, []⟩) (fun fin s' => ∃ v, fin = .done (.ret v) ∧ Q (some v) s') E s) : wpAny (model prog w) A (callSpecial? (.ref x) name args) Q E s := by
 unfold callSpecial? specialOf
 refine wpAny_bind (wpAny_bind (I.type.here ((looks_findIn X hf).here ?_)))
 dsimp only
 refine wpAny_holding (wpAny_bind (wpAny_of_eq (slot.bind _) (wpAny_bind (call_sub hk hs slot.plain hb (inst_looks X I hm) ha (wpAny_mono hc (fun fin s' h => ?_) fun _ _ z => z)))))
 obtain ⟨v, e, q⟩ := h
 exact ⟨v, e, wpAny_pure q⟩
theorem seqKey_sub {k : Value} {name : Str} {Q : Value → Shared → Prop} (X : K.In s.heap) (I : InstAt s.heap x ox C od) (hd : mroIn K C (.type "collections.deque") = some false) (h : Q k s) : wpAny (model prog w) A (sequenceKey (.ref x) k name) Q E s := by
 unfold sequenceKey
 refine wpAny_bind (I.type.here ?_)
 dsimp only
 unfold seqItemTypes
 have L := looks_mroIn (M := model prog w) X hd
 show wpAny _ _ (([("collections.deque" : String)].anyM fun n => isSubtype (.ref C) (.type n)) >>= _) _ _ _
 refine wpAny_bind ?_
 show wpAny _ _ (isSubtype (.ref C) (.type "collections.deque") >>= _) _ _ _
 refine wpAny_bind (L.here ?_)
 exact wpAny_pure (wpAny_pure h)
theorem getItem_sub {xs : List Value} {n : Nat} {d : Addr} {k : Int} {t : Tok} {v : Value} {Q : Value → Shared → Prop} (B : SubOk K C) (X : K.In s.heap) (I : InstAt s.heap x ⟨.ref C, some d, .seq xs.toArray n, #[]⟩ C od)
  (hfit : -(2 ^ 40) < k ∧ k < 2 ^ 40) (hx : at? k xs = some v) (h : Q v s) : wpAny (model prog w) A (getItem (.ref x) (.int k t)) Q E s := by
 unfold getItem
 refine wpAny_holding ?_
 refine wpAny_bind (seqKey_sub X I B.noDeque (wpAny_bind (special_sub X I B.isList B.getitem slot_list_getitem (n := "__getitem__") (.inr (by decide +kernel)) (by decide +kernel) entry_list_getitem (args_list_getitem _ _) ?_)))
 show wpAny _ _ (Builtin.List.listSubscript? (.int k t) >>= _) _ _ s
 have hf : Builtin.List.listFitsIndex k = true := by
  unfold Builtin.List.listFitsIndex
  simp only [Bool.and_eq_true, decide_eq_true_eq]
  omega
 refine wpAny_bind (wpAny_listSubscript_int hf ?_)
 refine at_some hx fun j e1 e2 => ?_
 have fin : wpAny (model prog w) A.in1 (pure (PySem.Fin.done (.ret v))) (fun fin s' => ∃ v, fin = PySem.Fin.done (.ret v) ∧ wpAny (model prog w) A (pure v) Q E s') E s := wpAny_pure ⟨v, rfl, wpAny_pure h⟩
 cases k with
 | ofNat m =>
  have e3 : xs.toArray[m]? = some v := by
   rcases seqIndex_cases e1 with ⟨_, h1, _⟩ | ⟨h0, _⟩
   ·have : j = m := by simpa using h1
    subst this; simpa using e2
   ·exact absurd h0 (Int.not_lt.mpr (Int.natCast_nonneg m))
  show wpAny _ _ ((seqItemAt x m >>= fun r => pure (r.map (m, ·))) >>= _) _ _ s
  refine wpAny_bind (wpAny_bind (wpAny_seqItemAt I.at_ rfl (wpAny_pure ?_)))
  rw [e3]
  first
   | exact wpAny_bind (wpAny_pure fin)
   | exact fin
 | negSucc m =>
  show wpAny _ _ ((Builtin.List.listItems (.ref x) >>= fun ys => pure ((seqIndex? (Int.negSucc m) ys.size).bind fun j => ys[j]?.map (j, ·))) >>= _) _ _ s
  refine wpAny_bind (wpAny_bind ?_)
  unfold Builtin.List.listItems
  refine wpAny_bind (wpAny_seqItems I.at_ rfl ?_)
  refine wpAny_pure ?_
  refine wpAny_pure ?_
  have e4 : ((seqIndex? (Int.negSucc m) xs.toArray.size).bind fun j => xs.toArray[j]?.map (j, ·)) = some (j, v) := by
   have : xs.toArray.size = xs.length := by simp
   rw [this, e1]
   simp [e2]
  rw [e4]
  first
   | exact wpAny_bind (wpAny_pure fin)
   | exact fin
theorem tail_sub {value slice : Expr} {i : Value} {ops : List Value} {id : String} {Q : Value → Shared → Prop} (X : K.In s.heap) (I : InstAt s.heap x ox C od) (hf : findIn K (.ref C) "__getitem__" = some (some (.builtin id)))
  (hg : wpAny (model prog w) A (getItem (.ref x) i) Q E s) (hs : subscripted slice false (.ref x) i = operate ops (getItem (.ref x) i)) : wpAny (model prog w) A (subscriptTail value slice (.ref x) i) Q E s := by
 unfold subscriptTail
 refine wpAny_bind ?_
 rw [getitemInPython_of_ne (fun h => by cases h)]
 unfold specialOf
 refine wpAny_bind (wpAny_bind (I.type.here ((looks_findIn X hf).here ?_)))
 have fin : wpAny (model prog w) A (subscripted slice false (.ref x) i) (fun r s₃ => wpAny (model prog w) A (letTemporaryGo value (.ref x) r >>= fun _ => pure r) Q E s₃) E s := by
  rw [hs]
  exact wpAny_operating (wpAny_mono hg (fun r s₃ h₃ => wpAny_bind (wpAny_letTemporaryGo (wpAny_pure h₃))) fun _ _ x => x)
 first
  | exact wpAny_pure (wpAny_bind fin)
  | exact wpAny_bind (wpAny_pure (wpAny_bind fin))
  | exact wpAny_bind fin
theorem getSlice_sub {xs : List Value} {n : Nat} {d sl : Addr} {vl vu vs : Value} {lo hi st : Option Int} {Q : Value → Shared → Prop} (B : SubOk K C) (X : K.In s.heap) (I : InstAt s.heap x ⟨.ref C, some d, .seq xs.toArray n, #[]⟩ C od)
  (hs : s.heap.IsSliceOf sl vl vu vs) (pl : IsPart vl lo) (pu : IsPart vu hi) (ps : IsPart vs st) (h0 : st ≠ some 0)
  (h : Q (.ref s.heap.objs.size) { s with heap := s.heap.push (lstO (pickI xs lo hi st) 0) }) (hsz : xs.length ≤ 1000) : wpAny (model prog w) A (getItem (.ref x) (.ref sl)) Q E s := by
 obtain ⟨os, hos, hcs, hds⟩ := id hs
 have hTs : s.TypeIs (.ref sl) "slice" := ⟨os, hos, hcs⟩
 unfold getItem
 refine wpAny_holding ?_
 refine wpAny_bind (seqKey_sub X I B.noDeque (wpAny_bind (special_sub X I B.isList B.getitem slot_list_getitem (n := "__getitem__") (.inr (by decide +kernel)) (by decide +kernel) entry_list_getitem (args_list_getitem _ _) ?_)))
 show wpAny _ _ (Builtin.List.listSubscript? (.ref sl) >>= _) _ _ s
 refine wpAny_bind ?_
 ·unfold Builtin.List.listSubscript?
  refine wpAny_bind (wpAny_specialOf hTs slice_no_index ?_)
  simp -iota only [Option.isNone_none, if_true]
  refine wpAny_pure ?_
  show wpAny _ _ (typeOf (.ref sl) >>= _) _ _ s
  refine wpAny_bind (wpAny_typeOf hTs ?_)
  rw [if_neg (by decide)]
  rw [listSliceParts_eq]
  have hstep : ¬ ((rawPart st == rawInt 0) = true) := by
   cases st with
   | none => exact Bool.false_ne_true
   | some c =>
    intro hh
    have : c = 0 := by simpa [rawPart, rawInt] using hh
    exact h0 (by rw [this])
  refine wpAny_bind (wpAny_bind (wpAny_field hos hds (x := vs) rfl (wpAny_bind (wpAny_listPart ps ?_))))
  rw [if_neg hstep]
  refine wpAny_bind (wpAny_field hos hds (x := vl) rfl (wpAny_bind (wpAny_listPart pl ?_)))
  refine wpAny_bind (wpAny_field hos hds (x := vu) rfl (wpAny_bind (wpAny_listPart pu (wpAny_pure ?_))))
  refine wpAny_bind (m := Builtin.List.listItems (.ref x)) ?_
  ·unfold Builtin.List.listItems
   refine wpAny_bind (wpAny_seqItems I.at_ rfl (wpAny_pure ?_))
   refine wpAny_bind (wpAny_of_eq (sliceIndices_raw lo hi st xs.toArray.size h0) ?_)
   have e : slicePick xs.toArray lo hi st = (pickI xs lo hi st).toArray := by
    unfold slicePick pickI; simp
   have z : Q (.ref s.heap.objs.size) { s with heap := s.heap.push { cls := .type "list", data := .seq (slicePick xs.toArray lo hi st) } } := by rw [e]; exact h
   refine wpAny_bind (wpAny_newObj_type (wpAny_pure ⟨_, rfl, wpAny_pure z⟩) (Nat.le_trans (slicePick_size_le xs.toArray lo hi st) (by simp only [List.size_toArray]; rw [sizeLine_eq]; omega)))
end
end
end
section
section
noncomputable def setPick {α : Type} (xs ys : List α) (lo hi : Option Int) : List α := let b := sliceBounds lo hi none xs.length; xs.take b.1.toNat ++ ys ++ xs.drop (max b.1 b.2.1).toNat
section
variable {prog : Program} {w : World} {A : Around} {E : Value → Shared → Prop} {s : Shared} {K : Frag} {x C : Addr} {ox : Obj} {od : Option Obj}
theorem setSlice_sub {xs ys : List Value} {n n2 : Nat} {d sl l2 : Addr} {vl vu : Value} {lo hi : Option Int} {Q : Unit → Shared → Prop} (B : SubOk K C) (X : K.In s.heap) (I : InstAt s.heap x ⟨.ref C, some d, .seq xs.toArray n, #[]⟩ C od)
  (hs : s.heap.IsSliceOf sl vl vu .none) (pl : IsPart vl lo) (pu : IsPart vu hi) (h2 : s.heap.get? l2 = some (lstO ys n2)) (hne : x ≠ l2)
  (h : ∀ h' n', Heap.SameBut x s.heap h' → h'.get? x = some ⟨.ref C, some d, .seq (setPick xs ys lo hi).toArray n', #[]⟩ → Q () { s with heap := h' }) (hsz : xs.length + ys.length ≤ 1000) : wpAny (model prog w) A (setItem (.ref x) (.ref sl) (.ref l2)) Q E s := by
 obtain ⟨os, hos, hcs, hds⟩ := id hs
 have hTs : s.TypeIs (.ref sl) "slice" := ⟨os, hos, hcs⟩
 unfold setItem
 refine wpAny_holding ?_
 refine wpAny_bind (seqKey_sub X I B.noDeque (wpAny_bind (special_sub X I B.isList B.setitem slot_list_setitem (n := "__setitem__") (.inl (by decide +kernel)) (by decide +kernel) entry_list_setitem (args_list_setitem _ _ _) ?_)))
 show wpAny _ _ (Builtin.List.listSubscript? (.ref sl) >>= _) _ _ s
 refine wpAny_bind ?_
 ·unfold Builtin.List.listSubscript?
  refine wpAny_bind (wpAny_specialOf hTs slice_no_index ?_)
  simp -iota only [Option.isNone_none, if_true]
  refine wpAny_pure ?_
  show wpAny _ _ (typeOf (.ref sl) >>= _) _ _ s
  refine wpAny_bind (wpAny_typeOf hTs ?_)
  rw [if_neg (by decide)]
  rw [listSliceParts_eq]
  have hstep : ¬ ((rawPart none == rawInt 0) = true) := Bool.false_ne_true
  refine wpAny_bind (wpAny_bind (wpAny_field hos hds (x := .none) rfl (wpAny_bind (wpAny_listPart .none ?_))))
  rw [if_neg hstep]
  refine wpAny_bind (wpAny_field hos hds (x := vl) rfl (wpAny_bind (wpAny_listPart pl ?_)))
  refine wpAny_bind (wpAny_field hos hds (x := vu) rfl (wpAny_bind (wpAny_listPart pu (wpAny_pure ?_))))
  have e1 : Builtin.List.listSameRef (.ref x) (.ref l2) = false := by
   show (x == l2) = false
   simpa using hne
  rw [e1]
  simp -iota only [Bool.false_eq_true, if_false]
  refine wpAny_bind (m := Builtin.List.listAllItems (.ref l2) _) ?_
  unfold Builtin.List.listAllItems
  refine wpAny_bind (wpAny_typeOf (T := "list") ⟨_, h2, rfl⟩ ?_)
  rw [if_pos (by rfl)]
  unfold Builtin.List.listItems
  refine wpAny_bind (wpAny_seqItems h2 rfl (wpAny_pure ?_))
  refine wpAny_bind (m := Builtin.List.listItems (.ref x)) ?_
  unfold Builtin.List.listItems
  refine wpAny_bind (wpAny_seqItems I.at_ rfl (wpAny_pure ?_))
  refine wpAny_bind (wpAny_of_eq (sliceIndices_raw lo hi none xs.toArray.size (by simp)) ?_)
  generalize hb : sliceBounds lo hi none xs.toArray.size = b
  have hb3 : b.2.2 = 1 := by rw [← hb]; rfl
  obtain ⟨b1, b2, b3⟩ := b
  have hb3 : b3 = 1 := hb3
  subst hb3
  show wpAny _ _ (if ((1 : Int) == 1) = true then _ else _) _ _ _
  dsimp only
  rw [if_pos (show ((1 : Int) == 1) = true from rfl)]
  have hl : Builtin.List.listTooLong (xs.toArray.size + ys.toArray.size) = false := by
   unfold Builtin.List.listTooLong
   simp only [List.size_toArray, decide_eq_false_iff_not]
   rw [sizeLine_eq]
   omega
  refine wpAny_bind (wpAny_rule ?_)
  rw [hl]
  simp only [Bool.false_eq_true, if_false]
  have hf : (xs.toArray.extract 0 b1.toNat ++ ys.toArray ++ xs.toArray.extract (max b1 b2).toNat xs.toArray.size) = (setPick xs ys lo hi).toArray := by
   unfold setPick
   have e : sliceBounds lo hi none xs.length = (b1, b2, 1) := by rw [← hb]; simp
   rw [e]
   simp
   exact List.take_of_length_le (by simp)
  obtain ⟨n', em⟩ : ∃ n', Obj.mapSeq (fun xs => xs.extract 0 b1.toNat ++ ys.toArray ++ xs.extract (max b1 b2).toNat xs.size) ⟨.ref C, some d, .seq xs.toArray n, #[]⟩ = ⟨.ref C, some d, .seq (setPick xs ys lo hi).toArray n', #[]⟩ := by
   unfold Obj.mapSeq
   dsimp only
   rw [hf]
   exact ⟨_, rfl⟩
  have hsb : Heap.SameBut x s.heap (s.heap.update x (Obj.mapSeq (fun xs => xs.extract 0 b1.toNat ++ ys.toArray ++ xs.extract (max b1 b2).toNat xs.size))) := Heap.SameBut.update ..
  have hg : (s.heap.update x (Obj.mapSeq (fun xs => xs.extract 0 b1.toNat ++ ys.toArray ++ xs.extract (max b1 b2).toNat xs.size))).get? x = some ⟨.ref C, some d, .seq (setPick xs ys lo hi).toArray n', #[]⟩ := by
   rw [Heap.get?_update_self _ I.at_ (by rw [em]; rfl), em]
  have z := h _ n' hsb hg
  have hszE : (setPick xs ys lo hi).length ≤ xs.length + xs.length + ys.length := by
   unfold setPick
   simp only [List.length_append, List.length_take, List.length_drop]
   omega
  unfold Builtin.List.listUpdate
  first
   | refine wpAny_bind (wpAny_updateSeq I.at_ rfl ?_ ?_ ?_)
   | refine wpAny_bind (wpAny_pure (wpAny_bind (wpAny_updateSeq I.at_ rfl ?_ ?_ ?_)))
  ·refine wpAny_bind (wpAny_letGo ?_)
   first
    | exact wpAny_pure ⟨_, rfl, wpAny_pure z⟩
    | exact wpAny_bind (wpAny_pure (wpAny_pure ⟨_, rfl, wpAny_pure z⟩))
    | exact wpAny_bind (wpAny_pure ⟨_, rfl, wpAny_pure z⟩)
  ·simp only [List.size_toArray]; rw [sizeLine_eq]; omega
  ·rw [hf]; simp only [List.size_toArray]; rw [sizeLine_eq]; omega
end
end
end
section
section
section
variable {W : Wd} {Φ : Fx} {ρ ρ' : List Cell} {loc : Loc} {H H' : List AO} {s s1 s' : Shared} {P : Addr → Obj → Prop}
noncomputable def seqOf? (C : Addr) (H : List AO) (v : V) : Option (Nat × List V × List (Str × V)) := (instOf? H v).bind fun q => if q.2.1 == C then q.2.2.1.map fun xs => (q.1, xs, q.2.2.2) else none
theorem SI.seq (S : SI W Φ ρ loc H s) {C : Addr} {v : V} {X : Value} {i : Nat} {xs : List V} {fs : List (Str × V)} (h : seqOf? C H v = some (i, xs, fs)) (r : VR (Φ.P ρ s.heap) ρ v X) :
  ∃ x d vs k es n, X = .ref x ∧ v = .ref i ∧ H[i]? = some (.inst C (some xs) fs) ∧ InstR W.w s.heap (Φ.P ρ s.heap) ρ i x d C (some xs) fs (.seq (List.toArray vs) k) es n ∧ VRs (Φ.P ρ s.heap) ρ xs vs := obp4 h fun j C' sq fs' e1 h => ifo h fun hC h => omp h fun ys e2 e3 => by
 have hCC : C' = C := eq_of_beq hC
 have e4 := Prod.mk.inj e3
 have e5 := Prod.mk.inj e4.2
 rw [hCC, (show sq = some ys from e2), (show j = i from e4.1), e5.1, (show fs' = fs from e5.2)] at e1
 exact (S.inst e1 r).elim fun x z => z.elim fun d z => z.elim fun data z => z.elim fun es z => z.elim fun n z => z.2.2.2.data.elim fun vs y => y.elim fun k y => ⟨x, d, vs, k, es, n, z.1, z.2.1, z.2.2.1, y.1 ▸ z.2.2.2, y.2⟩
theorem SI.seqE (S : SI W Φ ρ loc H s) {C : Addr} {v : V} {X : Value} {i : Nat} {xs : List V} {fs : List (Str × V)} (h : seqOf? C H v = some (i, xs, fs)) (r : VR (Φ.P ρ s.heap) ρ v X) {G : Prop} (k : ∀ x d vs k es n, X = .ref x → InstR W.w s.heap (Φ.P ρ s.heap) ρ i x d C (some xs) fs (.seq (List.toArray vs) k) es n → VRs (Φ.P ρ s.heap) ρ xs vs → G) : G :=
 (S.seq h r).elim fun x z => z.elim fun d z => z.elim fun vs z => z.elim fun kk z => z.elim fun es z => z.elim fun n z => k x d vs kk es n z.1 z.2.2.2.1 z.2.2.2.2
noncomputable def idxA (C : Addr) (H : List AO) (a b : V) : Option (V × List AO) := b.int?.bind fun k => if small k then (seqOf? C H a).bind fun q => (at? k q.2.1).map (·, H) else none
theorem VRs.at {xs : List V} {vs : List Value} (h : VRs P ρ xs vs) {k : Int} {v : V} (e : at? k xs = some v) : ∃ X, at? k vs = some X ∧ VR P ρ v X := at_some e fun j e1 e2 => (h.get e2).imp fun X z => ⟨bind_of (h.length ▸ e1) z.1, z.2⟩
theorem op_idxA {C : Addr} (O : Φ.Ok W) (B : SubOk W.K C) {value slice : Expr} (hs : ∀ o i, subscripted slice false o i = operate [o, i] (getItem o i)) : S2 W Φ (subscriptTail value slice) (idxA C) := fun loc H a b v H' X Y ρ s Q E hf S ha hb kk =>
 obp hf fun k e0 hf => ifo hf fun hz hf => obp3 hf fun i xs fs e1 hf => omp hf fun u e2 q => (hb.isInt e0).elim fun t eY => S.seqE e1 ha fun x d vs k es n eX I hvs => (hvs.at e2).elim fun Z z => by
  subst eX eY
  exact tail_sub (S.KI O) I.at B.getitem (getItem_sub B (S.KI O) I.at (small_is hz) z.1 (kk.of q Z s ρ .refl S z.2)) (hs _ _)
noncomputable def sliceA (C : Addr) (f : EF) (p q r : PF) : EF := fun loc H => (f loc H).bind fun a => (p loc a.2).bind fun lo => (q loc lo.2).bind fun hi => (r loc hi.2).bind fun st =>
 (seqOf? C st.2 a.1).bind fun z => if st.1 ≠ some 0 ∧ z.2.1.length ≤ 1000 then some (.lst (pickI z.2.1 lo.1 hi.1 st.1), st.2) else none
theorem se_sliceA {C : Addr} (O : Φ.Ok W) (B : SubOk W.K C) {value : Expr} {lower upper step : Option Expr} {p0 pos : Pos} {f : EF} {p q r : PF} (hv : SE W Φ value f) (hp : SP W Φ lower p) (hq : SP W Φ upper q) (hr : SP W Φ step r)
  (hs : ∀ o i, ∃ ops, subscripted (.Slice lower upper step p0) false o i = operate ops (getItem o i)) : SE W Φ (.Subscript value (.Slice lower upper step p0) pos) (sliceA C f p q r) := fun loc H v H' ρ s Q E hf S k => obp2 hf fun a H1 e1 hf => obp2 hf fun lo H2 e2 hf => obp2 hf fun hi H3 e3 hf => obp2 hf fun st H4 e4 hf => obp3 hf fun i xs fs e5 hf => ifs hf fun hz q => by
 refine Subscript_ (hv _ _ _ _ _ _ _ _ e1 S fun X s1 ρ1 t1 S1 v1 => wpAny_Slice (hp _ _ _ _ _ _ _ _ e2 S1 fun L s2 ρ2 t2 S2' l2 => hq _ _ _ _ _ _ _ _ e3 S2' fun U s3 ρ3 t3 S3 u3 => hr _ _ _ _ _ _ _ _ e4 S3 fun T s4 ρ4 t4 S4 st4 => ?_))
 have k1 := Kp.pushO s4 { cls := .type "slice", data := .fields #[L, U, T] }
 have S5 := S4.kept k1
 refine S5.seqE e5 (k1.stp.mono (((t2.trans t3).trans t4).mono v1)) fun x d vs k' es n eX I hvs => (hs (.ref x) (.ref s4.heap.objs.size)).elim fun ops hops => ?_
 subst eX
 have k2 := Kp.pushO { s4 with heap := s4.heap.push { cls := .type "slice", data := .fields #[L, U, T] } } (lstO (pickI vs lo hi st) 0)
 exact tail_sub (S5.KI O) I.at B.getitem (getSlice_sub B (S5.KI O) I.at (Heap.IsSliceOf.new _ _ _ _) l2 u3 st4 hz.1 (k.of q _ _ ρ4 (((((t1.trans t2).trans t3).trans t4).trans k1.stp).trans k2.stp) (S5.kept k2) (.lst (S5.got rfl) (k2.stp.monos (hvs.pickI _ _ _)))) (hvs.length ▸ hz.2)) hops
noncomputable def setsliceF (C : Addr) (f fo : EF) (p q : PF) : SF := fun loc H => (f loc H).bind fun y => (fo loc y.2).bind fun a => (p loc a.2).bind fun lo => (q loc lo.2).bind fun hi =>
 (seqOf? C hi.2 a.1).bind fun z => (listOf? hi.2 y.1).bind fun ys => if z.2.1.length + ys.length ≤ 1000 then some (.next, loc, hi.2.set z.1 (.inst C (some (setPick z.2.1 ys lo.1 hi.1)) z.2.2)) else none
theorem VRs.setPick {xs ys : List V} {vs ws : List Value} (h : VRs P ρ xs vs) (h2 : VRs P ρ ys ws) (lo hi : Option Int) : VRs P ρ (Mine.setPick xs ys lo hi) (Mine.setPick vs ws lo hi) := by
 unfold Mine.setPick
 rw [← h.length]
 exact ((h.take _).append h2).append (h.drop _)
theorem sx_setslice {C : Addr} (O : Φ.Ok W) (B : SubOk W.K C) {o value : Expr} {lower upper : Option Expr} {p0 apos pos : Pos} {f fo : EF} {p q : PF} (hv : SE W Φ value f) (ho : SE W Φ o fo) (hp : SP W Φ lower p) (hq : SP W Φ upper q)
  (hsw : swapsWith value (some (.Subscript o (.Slice lower upper none p0) apos)) pos.line Φ.env = pure false) : SX W Φ (exec (.Assign [.Subscript o (.Slice lower upper none p0) apos] value pos) Φ.env) (setsliceF C f fo p q) := fun loc H r loc' H' ρ s Q E hf S k => obp2 hf fun y H0 e0 hf => obp2 hf fun a H1 e1 hf => obp2 hf fun lo H2 e2 hf => obp2 hf fun hi H3 e3 hf => obp3 hf fun i xs fs e5 hf => obp hf fun ys e6 hf => ifs hf fun hz q => by
 refine wpAny_Assign_Subscript (hv _ _ _ _ _ _ _ _ e0 S fun Y s0 ρ0 t0 S0 v0 => ho _ _ _ _ _ _ _ _ e1 S0 fun X s1 ρ1 t1 S1 v1 => wpAny_Slice (hp _ _ _ _ _ _ _ _ e2 S1 fun L s2 ρ2 t2 S2' l2 => hq _ _ _ _ _ _ _ _ e3 S2' fun U s3 ρ3 t3 S3 u3 => ?_)) hsw
 rw [evalPart_none]
 refine wpAny_pure ?_
 have k1 := Kp.pushO s3 { cls := .type "slice", data := .fields #[L, U, .none] }
 have S5 := S3.kept k1
 refine S5.seqE e5 (k1.stp.mono ((t2.trans t3).mono v1)) fun x d vs k' es n eX I hvs => S5.listE e6 (k1.stp.mono (((t1.trans t2).trans t3).mono v0)) fun l ws n2 eY hl hws => ?_
 subst eX eY
 exact setSlice_sub B (S5.KI O) I.at (Heap.IsSliceOf.new _ _ _ _) l2 u3 hl (fun q => by cases (q ▸ I.obj).symm.trans hl) (fun h' n' hsb hg => have w := S5.updSeq I (tk := s3.toks) hsb hg (hvs.setPick hws lo hi); k.of q _ _ _ (((((t0.trans t1).trans t2).trans t3).trans k1.stp).trans w.2) w.1 trivial) (hvs.length ▸ hws.length ▸ hz)
end
end
end
section
section
noncomputable abbrev Fx.inC (Φ : Fx) (A : Around) : Fx := { Φ with A := A, lv := Φ.lv - 1 }
section
variable {W : Wd} {Φ : Fx} {ρ ρ' : List Cell} {loc : Loc} {H H' : List AO} {s s1 s' : Shared} {P : Addr → Obj → Prop}
theorem Fx.Ok.inC (O : Φ.Ok W) (hl : 1 ≤ Φ.lv) {A : Around} (h1 : A.frames = Φ.A.frames) (h2 : A.handled = Φ.A.handled) (h3 : A.depth ≤ Φ.A.depth + 8) (h4 : A.units ≤ Φ.A.units + 100) : (Φ.inC A).Ok W :=
 ⟨O.K, O.T, h1.trans O.frames, O.stays, O.stack, O.off, h2.trans O.hh, O.loc, O.glob, O.bi, O.kind, O.nm, O.nd, by have := O.depth; show A.depth + 8 * (Φ.lv - 1) + 8 < _; omega, by have := O.units; show A.units + 100 * (Φ.lv - 1) + 100 < _; omega⟩
theorem SI.inC (S : SI W Φ ρ loc H s) (A : Around) : SI W (Φ.inC A) ρ loc H s := ⟨S.m, S.cl, S.hp, S.nd, S.gn, S.lt, S.tb, S.gens, S.up⟩
theorem SI.outC {A : Around} (S : SI W (Φ.inC A) ρ loc H s) : SI W Φ ρ loc H s := ⟨S.m, S.cl, S.hp, S.nd, S.gn, S.lt, S.tb, S.gens, S.up⟩
theorem Stp.outC {A : Around} (t : Stp (Φ.inC A) ρ ρ' s s') : Stp Φ ρ ρ' s s' := ⟨t.pre, t.keep, t.os⟩
theorem CallOk.inC {n : Nat} {f : Value} {F} (h : CallOk W n f F) (O : Φ.Ok W) (hn : n + 1 < Φ.lv) {A : Around} (h1 : A.frames = Φ.A.frames) (h2 : A.handled = Φ.A.handled) (h3 : A.depth ≤ Φ.A.depth + 8) (h4 : A.units ≤ Φ.A.units + 100)
  {args : List V} {v : V} {Vs : List Value} {Q : Value → Shared → Prop} {E : Value → Shared → Prop} (hf : F args H = some (v, H')) (S : SI W Φ ρ loc H s) (hv : VRs (Φ.P ρ s.heap) ρ args Vs)
  (k : ∀ X s' ρ', Stp Φ ρ ρ' s s' → SI W Φ ρ' loc H' s' → VR (Φ.P ρ' s'.heap) ρ' v X → Q X s') : wpAny W.M A (call f Vs) Q E s :=
 h (Φ.inC A) (O.inC (by omega) h1 h2 h3 h4) (by show n < Φ.lv - 1; omega) loc H args v H' Vs ρ s Q E hf (S.inC A) hv fun X s' ρ' t S' r => k X s' ρ' t.outC S'.outC r
noncomputable def isInst (C : Addr) (name : Str) (H : List AO) (v : V) : Bool := oB (instOf? H v) fun q => q.2.1 == C && (q.2.2.2.lookup name).isNone
theorem method_fn2 {prog : Program} {w : World} {A : Around} {E : Value → Shared → Prop} {s : Shared} {K : Frag} {x C : Addr} {ox : Obj} {es : List DictEntry} {n : Nat} {name : Str} {pl : Sem Bool} {Q : Value × List Value → Shared → Prop} {f : Addr} {ga : String}
  (X : K.In s.heap) (I : InstAt s.heap x ox C (some (dictOf es n))) (hga : findIn K (.ref C) "__getattribute__" = some (some (.builtin ga))) (hcan : (Manifest.canonical ga != "object.__getattribute__") = false) (hk : findIn K (.ref C) "__getattr__" = some none)
  (hf : findIn K (.ref C) name = some (some (.ref f))) (ht : typeIn K (.ref f) = some (.type "function")) (hs : getL name es = some none) (h : Q (.ref f, [.ref x]) s) :
  wpAny (model prog w) A (getMethod (.ref x) name pl) Q E s := by
 unfold getMethod specialOf
 refine wpAny_bind (wpAny_bind (I.type.here ((looks_findIn X hga).here ?_)))
 dsimp only
 rw [hcan, if_neg (by decide)]
 refine wpAny_bind (wpAny_bind (I.type.here ((looks_findIn X hk).here ?_)))
 refine wpAny_bind (wpAny_bind (I.type.here ((looks_findIn X hf).here (wpAny_bind ((looks_typeIn X ht).here ?_)))))
 rw [if_neg (by decide +kernel)]
 refine wpAny_bind (wpAny_loadPart I.at_ ?_)
 have hd := I.dict
 cases e : ox.dict with
 | none => exact wpAny_bind (wpAny_rule (wpAny_pure h))
 | some dx =>
  rw [e] at hd
  refine wpAny_bind (wpAny_bind (wpAny_loadPart hd ?_))
  rw [nsLook_of (show lookIn name (dictOf es n) = some none from hs)]
  refine wpAny_pure ?_
  exact wpAny_bind (wpAny_rule (wpAny_pure h))
theorem isInst_of {C : Addr} {name : Str} {v : V} {G : Prop} (h : isInst C name H v = true) (k : ∀ i sq fs, instOf? H v = some (i, C, sq, fs) → fs.lookup name = none → G) : G := oB_is h fun q e1 e2 => by
 have e2 := Bool.and_eq_true_iff.mp e2
 exact k q.1 q.2.2.1 q.2.2.2 (eq_of_beq e2.1 ▸ e1) (Option.isNone_iff_eq_none.mp e2.2)
theorem SI.instE (S : SI W Φ ρ loc H s) {v : V} {X : Value} {i : Nat} {C : Addr} {sq : Option (List V)} {fs : List (Str × V)} (h : instOf? H v = some (i, C, sq, fs)) (r : VR (Φ.P ρ s.heap) ρ v X) {G : Prop} (k : ∀ x d data es n, X = .ref x → InstR W.w s.heap (Φ.P ρ s.heap) ρ i x d C sq fs data es n → G) : G :=
 (S.inst h r).elim fun x z => z.elim fun d z => z.elim fun data z => z.elim fun es z => z.elim fun n z => k x d data es n z.1 z.2.2.2
theorem sg_fn {C f : Addr} {name : Str} {ga : String} (hga : findIn W.K (.ref C) "__getattribute__" = some (some (.builtin ga))) (hcan : (Manifest.canonical ga != "object.__getattribute__") = false) (hk : findIn W.K (.ref C) "__getattr__" = some none)
  (hf : findIn W.K (.ref C) name = some (some (.ref f))) (ht : typeIn W.K (.ref f) = some (.type "function")) : SGm W name (.ref f) (isInst C name) := fun Φ O loc H v ρ s X Q E pl hd S hv k => isInst_of hd fun i sq fs e1 e2 => S.instE e1 hv fun a d data es n eX I => by
 subst eX
 exact method_fn2 (S.KI O) I.at hga hcan hk hf ht (I.fs.getL_none e2) k
theorem sg_bi {C : Addr} {name : Str} {ga b : String} (hga : findIn W.K (.ref C) "__getattribute__" = some (some (.builtin ga))) (hcan : (Manifest.canonical ga != "object.__getattribute__") = false) (hk : findIn W.K (.ref C) "__getattr__" = some none)
  (hf : findIn W.K (.ref C) name = some (some (.builtin b))) (ht : typeIn W.K (.builtin b) = some (.type "method_descriptor")) : SGm W name (.builtin b) (isInst C name) := fun Φ O loc H v ρ s X Q E pl hd S hv k => isInst_of hd fun i sq fs e1 e2 => S.instE e1 hv fun a d data es n eX I => by
 subst eX
 exact method_bi2 (S.KI O) I.at hga hk hf ht (I.fs.getL_none e2) hcan k
noncomputable def appA (C : Addr) (args : List V) (H : List AO) : Option (V × List AO) := (two? args).bind fun p => (seqOf? C H p.1).bind fun q => if q.2.1.length ≤ 1000 then some (.none, H.set q.1 (.inst C (some (q.2.1 ++ [p.2])) q.2.2)) else none
theorem c_appA {C : Addr} {n : Nat} (B : SubOk W.K C) : CallOk W n (.builtin "list.append") (appA C) := fun Φ O hn loc H args v H' Vs ρ s Q E hf S hv k => obp hf fun p e0 hf => obp3 hf fun i xs fs e1 hf => ifs hf fun hz q => (hv.two e0).elim fun X z => z.elim fun Y z => S.seqE e1 z.2.1 fun x d vs k' es m eX I hvs => by
 rw [z.1, eX]
 have hlen := hvs.length
 refine call_sub (owner := "list") (n := "append") (.inr (by decide +kernel)) (by decide +kernel) slot_list_append.plain entry_list_append (inst_looks (S.KI O) I.at B.isList) (args_list_append _ _) ?_
 show wpAny _ _ (updateSeq x (·.push Y) >>= fun _ => ret .none) _ _ s
 refine wpAny_bind (wpAny_updateSeq I.obj rfl (wpAny_pure ⟨.none, rfl, ?_⟩) (le_size3 (show vs.length ≤ 1000 from hlen ▸ hz)) (by rw [List.push_toArray, List.size_toArray, List.length_append, sizeLine_eq, ← hlen]; exact Nat.le_trans (Nat.add_le_add_right hz 1) (by decide)))
 have e : Obj.mapSeq (·.push Y) ⟨.ref C, some d, .seq vs.toArray k', #[]⟩ = ⟨.ref C, some d, .seq (vs ++ [Y]).toArray (k' + 1), #[]⟩ := by
  simp [Obj.mapSeq]
 have w := S.updSeq I (tk := s.toks) (Heap.SameBut.update ..) ((Heap.get?_update_self (Obj.mapSeq (·.push Y)) I.obj (by rw [e]; rfl)).trans (congrArg some e)) (hvs.append (.cons z.2.2 .nil))
 exact k.of q _ _ _ w.2 w.1 .none
noncomputable def lenA (C : Addr) (F : List V → List AO → Option (V × List AO)) (args : List V) (H : List AO) : Option (V × List AO) := (one? args).bind fun a => (instOf? H a).bind fun q => if q.2.1 == C then (F [a] H).bind fun p => p.1.int?.bind fun n => if 0 ≤ n ∧ n < 2 ^ 40 then some (.int n, p.2) else none else none
theorem len_body {C f : Addr} {n : Nat} {F} (O : Φ.Ok W) (hn : n + 1 < Φ.lv) (hc : CallOk W n (.ref f) F) (hs : findIn W.K (.ref C) "__len__" = some (some (.ref f))) (ht : typeIn W.K (.ref f) = some (.type "function")) {a : V} {m : Int} {X : Value} {Q : Value → Shared → Prop} {E : Value → Shared → Prop} {A : Around}
  (h1 : A.frames = Φ.A.frames) (h2 : A.handled = Φ.A.handled) (h3 : A.depth ≤ Φ.A.depth + 8) (h4 : A.units ≤ Φ.A.units + 100)
  (hf : lenA C F [a] H = some (.int m, H')) (S : SI W Φ ρ loc H s) (r : VR (Φ.P ρ s.heap) ρ a X) (k : ∀ s' ρ' t, Stp Φ ρ ρ' s s' → SI W Φ ρ' loc H' s' → Q (.int m t) s') :
  wpAny W.M A (Builtin.«len» ⟨[X], []⟩) (fun fin s' => ∃ v, fin = .done (.ret v) ∧ Q v s') E s := obp4 (show (instOf? H a).bind _ = _ from hf) fun i C' sq fs e1 hf => ifo hf fun hC hf => obp2 hf fun u H1 e2 hf => obp hf fun z e3 hf => ifs hf fun hz q => by
 have hCC : C' = C := eq_of_beq hC
 subst hCC
 have q1 := Prod.mk.inj q
 cases q1.1
 refine S.instE e1 r fun x d data es m' eX I => ?_
 subst eX
 unfold Builtin.«len»
 refine wpAny_bind (m := oneArg "len" _) (wpAny_pure ?_)
 refine wpAny_bind (m := callSpecial? (.ref x) (Str.ofString "__len__")) (special_fn (S.KI O) I.at hs ht (hc.inC O hn h1 h2 h3 h4 e2 S (.cons r .nil) fun Y s1 ρ1 t1 S1 v1 => (v1.isInt e3).elim fun t eY => ?_))
 subst eY
 refine wpAny_bind (wpAny_holding (wpAny_pure ?_))
 refine wpAny_bind (wpAny_letGo ?_)
 show wpAny _ _ (if m < 0 then _ else _) _ _ _
 rw [if_neg (Int.not_lt.mpr hz.1)]
 show wpAny _ _ (if m ≥ 2 ^ 63 then _ else _) _ _ _
 rw [if_neg (by omega)]
 exact wpAny_bind (wpAny_mkInt (wpAny_pure ⟨_, rfl, k _ _ _ (t1.trans Kp.toks.stp) (q1.2 ▸ S1.kept Kp.toks)⟩))
theorem lenA_int {C : Addr} {F} {args : List V} {v : V} (hf : lenA C F args H = some (v, H')) : ∃ a m, args = [a] ∧ v = .int m := obp hf fun a e0 hf => obp hf fun q _ hf => ifo hf fun _ hf => obp hf fun p _ hf => obp hf fun n _ hf => ifs hf fun _ q => ⟨a, n, one?_is e0, (Prod.mk.inj q).1.symm⟩
theorem c_lenA {C f : Addr} {n : Nat} {F} (hc : CallOk W n (.ref f) F) (hs : findIn W.K (.ref C) "__len__" = some (some (.ref f))) (ht : typeIn W.K (.ref f) = some (.type "function")) : CallOk W (n + 1) (.builtin "len") (lenA C F) := fun Φ O hn loc H args v H' Vs ρ s Q E hf S hv k => (lenA_int hf).elim fun a z => z.elim fun m z => by
 rw [z.1] at hf hv
 rw [z.2] at hf k
 exact hv.inv1.elim fun X y => y.1 ▸ Calls.call_function_entry kind_len plain_len entry_len (args_len1 _) (len_body O hn hc hs ht rfl rfl (show Φ.A.depth ≤ _ by omega) (show Φ.A.units + 1 ≤ _ by omega) hf S y.2 fun s' ρ' t t1 S1 => k _ _ _ t1 S1 (.int _ _))
end
end
end
section
section
section
variable {W : Wd} {Φ : Fx} {ρ ρ' : List Cell} {loc : Loc} {H H' : List AO} {s s1 s' : Shared} {P : Addr → Obj → Prop}
theorem wp_truthA {C f : Addr} {n : Nat} {F} (O : Φ.Ok W) (hn : n + 1 < Φ.lv) (hc : CallOk W n (.ref f) F) (hs : findIn W.K (.ref C) "__len__" = some (some (.ref f))) (hb : findIn W.K (.ref C) "__bool__" = some none) (ht : typeIn W.K (.ref f) = some (.type "function")) {a : V} {m : Int} {X : Value} {Q : Bool → Shared → Prop} {E : Value → Shared → Prop}
  (hf : lenA C F [a] H = some (.int m, H')) (S : SI W Φ ρ loc H s) (r : VR (Φ.P ρ s.heap) ρ a X) (k : ∀ s' ρ', Stp Φ ρ ρ' s s' → SI W Φ ρ' loc H' s' → Q (m != 0) s') : wpAny W.M Φ.A (truthy X) Q E s := by
 have key : wpAny W.M Φ.A (runValue (.builtin "len" ⟨[X], []⟩)) (fun r s' => ∃ t, r = .int m t ∧ Q (m != 0) s') E s := by
  refine wpAny_runValue (codeAny_builtin entry_len ?_)
  rw [Around.under_plainId plain_len _]
  refine wpAny_mono (len_body (Q := fun r s' => ∃ t, r = .int m t ∧ Q (m != 0) s') O hn hc hs ht rfl rfl (by show Φ.A.depth ≤ _; omega) (by show Φ.A.units + 1 ≤ _; omega) hf S r fun s' ρ' t t1 S1 => ⟨t, rfl, k _ _ t1 S1⟩)
   (fun fin s' h' => by obtain ⟨r, rfl, hq⟩ := h'; exact hq) fun _ _ e => e
 refine obp4 (show (instOf? H a).bind _ = _ from hf) fun i C' sq fs e1 hf2 => ifo hf2 fun hC _ => ?_
 have hCC : C' = C := eq_of_beq hC
 subst hCC
 refine S.instE e1 r fun x d data es m' eX I => ?_
 subst eX
 have L1 : Looks W.M s.heap (specialOf (.ref x) "__bool__") none := by
  unfold specialOf
  exact I.at.type.andThen (looks_findIn (S.KI O) hb)
 have L2 : Looks W.M s.heap (specialOf (.ref x) "__len__") (some (.ref f)) := by
  unfold specialOf
  exact I.at.type.andThen (looks_findIn (S.KI O) hs)
 unfold truthy
 refine wpAny_bind (m := callSpecial? (.ref x) (Str.ofString "__bool__")) ?_
 unfold callSpecial?
 exact wpAny_bind (L1.here (wpAny_pure (wpAny_bind (L2.here (wpAny_bind (wpAny_mono key (fun r s' h => h.elim fun t z => z.1 ▸ wpAny_pure z.2) fun _ _ z => z))))))
noncomputable def testA (C : Addr) (F : List V → List AO → Option (V × List AO)) (f : EF) : TF := fun loc H => (f loc H).bind fun p => (lenA C F [p.1] p.2).bind fun q => q.1.int?.map fun m => (m != 0, q.2)
theorem sb_valA {C g : Addr} {n : Nat} {F} (O : Φ.Ok W) (hn : n + 1 < Φ.lv) (hc : CallOk W n (.ref g) F) (hs : findIn W.K (.ref C) "__len__" = some (some (.ref g))) (hb : findIn W.K (.ref C) "__bool__" = some none) (ht : typeIn W.K (.ref g) = some (.type "function")) {e : Expr} {f : EF} (he : SE W Φ e f)
  (hp : isTrue e Φ.env (eval e Φ.env) = (do let v ← eval e Φ.env; standAt e.pos; holding [v] (truthy v)) := by rfl) : SB W Φ e (testA C F f) := fun loc H b H' ρ s Q E hf S k => obp2 hf fun v H1 e1 hf => obp2 hf fun u H2 e2 hf => omp hf fun m e3 q => by
 cases V.int?_is e3
 exact isTrue_plain (he _ _ _ _ _ _ _ _ e1 S fun X s1 ρ1 t1 S1 v1 => wp_truthA O hn hc hs hb ht e2 S1 v1 fun s2 ρ2 t2 S2 => k.of q _ _ (t1.trans t2) S2) hp
noncomputable def strA (C : Addr) (F : List V → List AO → Option (V × List AO)) (args : List V) (H : List AO) : Option (V × List AO) := (one? args).bind fun a => (instOf? H a).bind fun q => if q.2.1 == C then (F [a] H).bind fun p => p.1.str?.map fun x => (.str x, p.2) else none
theorem c_strA {C f : Addr} {n : Nat} {F} (hc : CallOk W n (.ref f) F) (hs : findIn W.K (.ref C) "__str__" = some (some (.ref f))) (hfn : isFn W.K (.ref f) = true) : CallOk W (n + 1) (.type "str") (strA C F) := fun Φ O hn loc H args v H' Vs ρ s Q E hf S hv k => obp hf fun a e0 hf => obp4 hf fun i C' sq fs e1 hf => ifo hf fun hC hf => obp2 hf fun u H1 e2 hf => omp hf fun z e3 q => (hv.one e0).elim fun X y => by
 have hCC : C' = C := eq_of_beq hC
 subst hCC
 refine S.instE e1 y.2 fun x d data es m' eX I => ?_
 rw [y.1, eX]
 exact kso_call (Nat.lt_of_le_of_lt (show Φ.A.units + 1 + 1 ≤ _ by omega) O.units) (S.KI O) I.at hs hfn (hc.inC (A := Φ.A.in1.in1) O hn rfl rfl (show Φ.A.depth ≤ _ by omega) (show Φ.A.units + 1 + 1 ≤ _ by omega) e2 S (.cons (eX ▸ y.2) .nil) fun Y s1 ρ1 t1 S1 v1 => (v1.isStr e3).elim fun t eY => eY ▸ k.of q _ _ _ t1 S1 (.str _ _))
end
end
end
section
section
namespace F
theorem slot_wd_get : Slot "wrapper_descriptor" "__get__" "wrapper_descriptor.__get__" :=
 .of (owner := "wrapper_descriptor") (n := "__get__") (by rw [typeLookup_type, builtinLookup_eq_fast]; kernel_rfl) (by decide +kernel) (by decide +kernel) (by decide +kernel)
  (by first | exact .inl (by decide +kernel) | exact .inr (by decide +kernel)) (by rw [isSubtype_type]; kernel_rfl)
theorem entry_wd_get : entryFor table "wrapper_descriptor.__get__" = some Builtin.«wrapper_descriptor.__get__» := entryFor_of_tree (by kernel_rfl)
theorem args_wd_get (a b c : Value) : argsOk "wrapper_descriptor.__get__" ⟨[a, b, c], []⟩ := by unfold argsOk; kernel_rfl
theorem slot_md_get : Slot "method_descriptor" "__get__" "method_descriptor.__get__" :=
 .of (owner := "method_descriptor") (n := "__get__") (by rw [typeLookup_type, builtinLookup_eq_fast]; kernel_rfl) (by decide +kernel) (by decide +kernel) (by decide +kernel)
  (by first | exact .inl (by decide +kernel) | exact .inr (by decide +kernel)) (by rw [isSubtype_type]; kernel_rfl)
theorem entry_md_get : entryFor table "method_descriptor.__get__" = some Builtin.«method_descriptor.__get__» := entryFor_of_tree (by kernel_rfl)
theorem args_md_get (a b c : Value) : argsOk "method_descriptor.__get__" ⟨[a, b, c], []⟩ := by unfold argsOk; kernel_rfl
theorem type_list_len : typeOf (.builtin "list.__len__") = pure (.type "wrapper_descriptor") := by show builtinType _ = _; rw [builtinType_eq_fast]; kernel_rfl
theorem type_list_init : typeOf (.builtin "list.__init__") = pure (.type "wrapper_descriptor") := by show builtinType _ = _; rw [builtinType_eq_fast]; kernel_rfl
theorem type_list_pop : typeOf (.builtin "list.pop") = pure (.type "method_descriptor") := by show builtinType _ = _; rw [builtinType_eq_fast]; kernel_rfl
end F
section
variable {prog : Program} {w : World} {M : Model} {A : Around} {E : Value → Shared → Prop} {s : Shared} {x C : Addr}
theorem run_get_len {P : PySem.Fin → Shared → Prop} (hi : Looks M s.heap (isInstance (.ref x) (.type "list")) true) (h : P (.done (.ret (.ref s.heap.objs.size))) { s with heap := s.heap.push { cls := .type "method-wrapper", data := .fields #[.builtin "list.__len__", .ref x] } }) :
  wpAny M A (Builtin.«wrapper_descriptor.__get__» ⟨[.builtin "list.__len__", .ref x, .ref C], []⟩) P E s := by
 unfold Builtin.«wrapper_descriptor.__get__»
 refine wpAny_bind (wpAny_of_eq (a := (.builtin "list.__len__", some (.ref x), some (.ref C))) (by first | rfl | kernel_rfl) ?_)
 refine wpAny_bind (wpAny_bind (wpAny_of_eq (a := (PySem.Str.ofString "__len__", .type "list")) (by first | kernel_rfl | rfl) ?_))
 refine wpAny_bind (hi.here ?_)
 refine wpAny_pure ?_
 exact wpAny_bind (wpAny_newObj_type (wpAny_pure h))
theorem run_get_init {P : PySem.Fin → Shared → Prop} (hi : Looks M s.heap (isInstance (.ref x) (.type "list")) true) (h : P (.done (.ret (.ref s.heap.objs.size))) { s with heap := s.heap.push { cls := .type "method-wrapper", data := .fields #[.builtin "list.__init__", .ref x] } }) :
  wpAny M A (Builtin.«wrapper_descriptor.__get__» ⟨[.builtin "list.__init__", .ref x, .ref C], []⟩) P E s := by
 unfold Builtin.«wrapper_descriptor.__get__»
 refine wpAny_bind (wpAny_of_eq (a := (.builtin "list.__init__", some (.ref x), some (.ref C))) (by first | rfl | kernel_rfl) ?_)
 refine wpAny_bind (wpAny_bind (wpAny_of_eq (a := (PySem.Str.ofString "__init__", .type "list")) (by first | kernel_rfl | rfl) ?_))
 refine wpAny_bind (hi.here ?_)
 refine wpAny_pure ?_
 exact wpAny_bind (wpAny_newObj_type (wpAny_pure h))
theorem run_get_pop {P : PySem.Fin → Shared → Prop} (hi : Looks M s.heap (isInstance (.ref x) (.type "list")) true) (h : P (.done (.ret (.ref s.heap.objs.size))) { s with heap := s.heap.push { cls := .type "builtin_function_or_method", data := .fields #[.builtin "list.pop", .ref x] } }) :
  wpAny M A (Builtin.«method_descriptor.__get__» ⟨[.builtin "list.pop", .ref x, .ref C], []⟩) P E s := by
 unfold Builtin.«method_descriptor.__get__»
 refine wpAny_bind (wpAny_of_eq (a := (.builtin "list.pop", some (.ref x), some (.ref C))) (by first | rfl | kernel_rfl) ?_)
 dsimp only
 rw [if_neg (by decide +kernel)]
 refine wpAny_bind (wpAny_bind (wpAny_of_eq (a := (PySem.Str.ofString "pop", .type "list")) (by first | kernel_rfl | rfl) ?_))
 refine wpAny_bind (hi.here ?_)
 refine wpAny_pure ?_
 exact wpAny_bind (wpAny_newObj_type (wpAny_pure h))
end
end
end
section
section
structure SupB (nm : Str) (id cls T idg : String) (B : Builtin) : Prop where
 ne : (nm == ("__class__" : PySem.Str)) = false
 slot : Slot T "__get__" idg
 entry : entryFor table idg = some B
 args : ∀ a b c, argsOk idg ⟨[a, b, c], []⟩
 type : typeOf (.builtin id) = pure (.type T)
 run : ∀ {M : Model} {A : Around} {E : Value → Shared → Prop} {s : Shared} {x C : Addr} {P : PySem.Fin → Shared → Prop}, Looks M s.heap (isInstance (.ref x) (.type "list")) true →
  P (.done (.ret (.ref s.heap.objs.size))) { s with heap := s.heap.push { cls := .type cls, data := .fields #[.builtin id, .ref x] } } → wpAny M A (B ⟨[.builtin id, .ref x, .ref C], []⟩) P E s
noncomputable abbrev supO (D x C : Addr) : Obj := { cls := .type "super", dict := none, data := .fields #[.ref D, .ref x, .ref C], slots := #[] }
section
variable {prog : Program} {w : World} {A : Around} {E : Value → Shared → Prop} {h : Heap} {g : Array GenState} {d : Drawn} {t : Nat} {os : OsState} {nm : Str} {id cls T idg : String} {B : Builtin}
theorem super_ga {so D x C : Addr} {l₀ l : List Value} {K : Frag} {tk : Tok} {Q : PySem.Fin → Shared → Prop} (Z : SupB nm id cls T idg B)
  (hso : h.get? so = some (supO D x C)) (hno : Looks (model prog w) h (opaqueClassAbove (.ref C)) none)
  (hC : Looks (model prog w) h (mroOf (.ref C)) l₀) (hl : (l₀.dropWhile (· != .ref D)).drop 1 = l) (X : K.In h)
  (hf : alongIn K nm l = some (some (.builtin id))) (hxC : x ≠ C) (hi : Looks (model prog w) h (isInstance (.ref x) (.type "list")) true)
  (hq : Q (.done (.ret (.ref h.objs.size))) ⟨h.push { cls := .type cls, data := .fields #[.builtin id, .ref x] }, g, d, t, os⟩) :
  wpAny (model prog w) A (Builtin.«super.__getattribute__» ⟨[.ref so, .str nm tk], []⟩) Q E ⟨h, g, d, t, os⟩ := by
 have hlk := Z.slot.lookup
 have hne : (Value.ref x == Value.ref C) = false := beq_false_of_ne fun e => hxC (Value.ref.inj e)
 have hTf : (⟨h, g, d, t, os⟩ : Shared).TypeIs (.builtin id) T := Z.type
 have hdt : (supO D x C).data = .fields #[.ref D, .ref x, .ref C] := rfl
 have f0 : (#[.ref D, .ref x, .ref C] : Array Value)[0]? = some (.ref D) := rfl
 have f1 : (#[.ref D, .ref x, .ref C] : Array Value)[1]? = some (.ref x) := rfl
 have f2 : (#[.ref D, .ref x, .ref C] : Array Value)[2]? = some (.ref C) := rfl
 have hn := Z.ne
 unfold Builtin.«super.__getattribute__»
 repeat (first
  | (with_reducible refine wpAny_field hso hdt f0 ?_) | (with_reducible refine wpAny_field hso hdt f1 ?_) | (with_reducible refine wpAny_field hso hdt f2 ?_)
  | (with_reducible refine ks_wpAny_notOpaque hno ?_)
  | (with_reducible refine Looks.at hC ?_; rw [hl])
  | (refine ks_forIn_along X (fun _ _ => rfl) rfl ?_ hf)
  | (with_reducible refine wpAny_typeOf hTf ?_)
  | (with_reducible refine wpAny_call_entry Z.slot hTf Z.entry (Z.run hi ?_) (Z.args _ _ _))
  | (with_reducible refine ⟨_, rfl, ?_⟩)
  | (simp only [hn, hne, Bool.or_false, Bool.false_eq_true, if_false])
  | wp_step
  | dsimp only)
 all_goals exact hq
theorem super_getm {so D x C : Addr} {l₀ l : List Value} {K : Frag} {pl : Sem Bool} {Q : Value × List Value → Shared → Prop} (Z : SupB nm id cls T idg B)
  (hso : h.get? so = some (supO D x C)) (hno : Looks (model prog w) h (opaqueClassAbove (.ref C)) none)
  (hC : Looks (model prog w) h (mroOf (.ref C)) l₀) (hl : (l₀.dropWhile (· != .ref D)).drop 1 = l) (X : K.In h)
  (hf : alongIn K nm l = some (some (.builtin id))) (hxC : x ≠ C) (hi : Looks (model prog w) h (isInstance (.ref x) (.type "list")) true)
  (hq : Q (.ref h.objs.size, []) ⟨h.push { cls := .type cls, data := .fields #[.builtin id, .ref x] }, g, d, t + 1, os⟩) :
  wpAny (model prog w) A (getMethod (.ref so) nm pl) Q E ⟨h, g, d, t, os⟩ := by
 have hlk := PySem.F.ks_slot_super_ga.lookup
 have hcan := PySem.F.ks_canon_super_ga
 have hT : ∀ t', (⟨h, g, d, t', os⟩ : Shared).TypeIs (.ref so) "super" := fun _ => ⟨_, hso, rfl⟩
 unfold getMethod
 refine wpAny_bind (wpAny_specialOf (hT _) hlk ?_)
 show wpAny _ _ (if (Manifest.canonical "super.__getattribute__" != "object.__getattribute__") = true then _ else _) _ _ _
 rw [if_pos hcan]
 unfold getAttr getAttrBy
 refine wpAny_bind (wpAny_bind (wpAny_mkText (wpAny_holding (wpAny_bind (wpAny_typeOf (hT _) (wpAny_bind (wpAny_of_eq hlk ?_)))))))
 show wpAny _ _ (getAttrByItsOwn (.ref so) (.str nm t) (.type "super") (.builtin "super.__getattribute__") true false) _ _ _
 unfold getAttrByItsOwn hookBefore callGetattribute boundAndCalled
 refine wpAny_bind (wpAny_of_eq (show (if onTheHeap (.type "super") then typeLookup (.type "super") "__getattr__" else pure none) = pure none from rfl) ?_)
 refine wpAny_bind (wpAny_attempt (wpAny_holding ?_))
 show wpAny _ _ (bindSpecial (.builtin "super.__getattribute__") (.ref so) >>= _) _ _ _
 refine wpAny_bind (wpAny_of_eq (PySem.F.ks_slot_super_ga.bind _) ?_)
 refine wpAny_mono (Q := fun v s' => v = .ref h.objs.size ∧ s' = ⟨h.push { cls := .type cls, data := .fields #[.builtin id, .ref x] }, g, d, t + 1, os⟩) (E := fun _ _ => False)
  (wpAny_call_entry PySem.F.ks_slot_super_ga (hT _) PySem.F.ks_entry_super_ga (super_ga Z hso hno hC hl X hf hxC hi ⟨_, rfl, rfl, rfl⟩) (PySem.F.ks_gaArgs_super _ _)) (fun v s' hv => ?_) fun _ _ z => z.elim
 rw [hv.1, hv.2]
 exact wpAny_pure (wpAny_pure hq)
theorem sup_len : SupB "__len__" "list.__len__" "method-wrapper" "wrapper_descriptor" "wrapper_descriptor.__get__" Builtin.«wrapper_descriptor.__get__» := ⟨by decide, F.slot_wd_get, F.entry_wd_get, F.args_wd_get, F.type_list_len, run_get_len⟩
theorem sup_init : SupB "__init__" "list.__init__" "method-wrapper" "wrapper_descriptor" "wrapper_descriptor.__get__" Builtin.«wrapper_descriptor.__get__» := ⟨by decide, F.slot_wd_get, F.entry_wd_get, F.args_wd_get, F.type_list_init, run_get_init⟩
theorem sup_pop : SupB "pop" "list.pop" "builtin_function_or_method" "method_descriptor" "method_descriptor.__get__" Builtin.«method_descriptor.__get__» := ⟨by decide, F.slot_md_get, F.entry_md_get, F.args_md_get, F.type_list_pop, run_get_pop⟩
end
end
end
section
section
theorem chk_len (x : Value) : checkBoundCall "list.__len__" ⟨[x], []⟩ = pure () := by first | rfl | kernel_rfl
theorem chk_init (x : Value) : checkBoundCall "list.__init__" ⟨[x], []⟩ = pure () := by first | rfl | kernel_rfl
noncomputable def popSig : Manifest.Signature := ⟨.positional, "list.pop", "pop", .self, [⟨"index", .posOnly, false⟩]⟩
theorem sig_pop : Manifest.signature? "list.pop" = some popSig := by first | kernel_rfl | decide +kernel
theorem kind_pop : builtinKind "list.pop" = some .method := by decide +kernel
theorem var_pop : Manifest.varargsMethods.contains "list.pop" = false := by decide +kernel
theorem args_pop_full (x : Value) : Bind.checkArgs "list.pop" { popSig with full := s!"{(PySem.Str.ofString "_Accumulator").toString}.{Bind.lastOf "list.pop"}" } ⟨[x], []⟩ = pure () := by first | kernel_rfl | rfl
section
variable {prog : Program} {w : World} {A : Around} {E : Value → Shared → Prop} {s : Shared} {x C : Addr} {K : Frag} {ox : Obj} {od : Option Obj}
theorem chk_pop {Q : Unit → Shared → Prop} (X : K.In s.heap) (I : InstAt s.heap x ox C od) (hnc : ∀ c, ox.data ≠ .cls c) (hm : mroIn K C (.type "module") = some false) {cd : ClassData} (hc : clsIn K C = some cd) (hq : cd.qualname = PySem.Str.ofString "_Accumulator") (ht : typeIn K (.ref C) = some (.type "type")) (h : Q () s) :
  wpAny (model prog w) A (checkBoundCall "list.pop" ⟨[.ref x], []⟩) Q E s := by
 unfold checkBoundCall
 rw [sig_pop, kind_pop]
 dsimp only
 rw [if_neg (by decide)]
 refine wpAny_bind ((inst_looks X I hm).here ?_)
 rw [var_pop]
 simp -iota only [Bool.or_self, Bool.false_eq_true, if_false]
 have hI := I.at_
 have L1 := I.type (M := model prog w)
 have L2 := looks_clsIn (M := model prog w) X hc
 have L3 := looks_typeIn (M := model prog w) X ht
 obtain ⟨hh, g, d, t, os⟩ := s
 refine wpAny_bind (ks_wpAny_isType_inst hI hnc ?_)
 simp -iota only [Bool.false_eq_true, if_false]
 refine wpAny_bind (L1.at ?_)
 dsimp only
 refine wpAny_bind (L2.at ?_)
 refine wpAny_bind (L3.at ?_)
 rw [if_pos (by decide), hq]
 exact wpAny_of_eq (args_pop_full (.ref x)) h
theorem call_bound {b : Addr} {cls id : String} {B : Builtin} {Q : Value → Shared → Prop} (hb : s.heap.get? b = some { cls := .type cls, data := .fields #[.builtin id, .ref x] }) (hcl : cls = "method-wrapper" ∨ cls = "builtin_function_or_method")
  (hchk : ∀ (A : Around) Q', Q' () s → wpAny (model prog w) A (checkBoundCall id ⟨[.ref x], []⟩) Q' E s) (hp : plainId id = true) (he : entryFor table id = some B)
  (hc : wpAny (model prog w) A.in1 (B ⟨[.ref x], []⟩) (fun fin s' => ∃ v, fin = .done (.ret v) ∧ Q v s') E s) : wpAny (model prog w) A (call (.ref b) []) Q E s := by
 refine wpAny_call (codeAny_of_tree ?_)
 show wpAny _ A.in1 (callAny (.ref b) ⟨[], []⟩) _ _ _
 unfold callAny
 refine wpAny_bind (wpAny_load hb ?_)
 have hm : (Value.type cls == Value.type "method" || Value.type cls == Value.type "builtin_function_or_method" || Value.type cls == Value.type "method-wrapper") = true := by rcases hcl with rfl | rfl <;> decide
 have hm2 : (Value.type cls != Value.type "method") = true := by rcases hcl with rfl | rfl <;> decide
 dsimp only
 rw [if_pos hm]
 show wpAny _ _ (if (Value.type cls != Value.type "method") = true then _ else _) _ _ _
 rw [if_pos hm2]
 refine wpAny_bind (hchk _ _ ?_)
 refine wpAny_pure ⟨plainId_quiet hp _, codeAny_builtin he ?_⟩
 rw [Around.under_plainId hp _]
 exact wpAny_mono hc (fun fin s' h' => by obtain ⟨v, rfl, hq⟩ := h'; exact hq) fun _ _ e => e
theorem callWith_bound0 {M : Model} {b : Addr} {cls id : String} {pos : Pos} {env : Env} {Q : Value → Shared → Prop} (hb : s.heap.get? b = some { cls := .type cls, data := .fields #[.builtin id, .ref x] }) (hcl : cls = "method-wrapper" ∨ cls = "builtin_function_or_method")
  (h : wpAny M A (call (.ref b) []) Q E s) : wpAny M A (callWith pos (.ref b) [] (backTo pos (starEach [] env)) []) Q E s := by
 unfold callWith
 refine wpAny_bind (wpAny_holding (evalArgs_nil3 (wpAny_bind (wpAny_standAt ?_))))
 rw [show backTo pos (starEach [] env) = [] from rfl]
 simp -iota only [List.any_nil, Bool.or_false]
 refine wpAny_bind (m := keeperOf (.ref b)) ?_
 unfold keeperOf
 refine wpAny_bind (wpAny_load hb ?_)
 have hm : (Value.type cls == Value.type "builtin_function_or_method" || Value.type cls == Value.type "method-wrapper") = true := by rcases hcl with rfl | rfl <;> decide
 have hm2 : (Value.type cls != Value.type "method") = true := by rcases hcl with rfl | rfl <;> decide
 dsimp only
 rw [if_pos hm2, if_pos hm]
 refine wpAny_pure ?_
 exact wpAny_bind (wpAny_mono h (fun r s₂ hr => wpAny_bind (wpAny_holding (wpAny_point (wpAny_pure hr)))) fun _ _ x => x)
end
end
end
section
section
noncomputable abbrev fxs (fd : FuncData) (f : Addr) (xs : List (Str × Option Nat)) (n : Nat) (A : Around) (g : Heap) (L : Addr) (base : Bs) (fr : List Env) : Fx :=
 ⟨A, callEnv fd L f, g, L, namesAt L xs, base, fr, n⟩
structure SuperFn (W : Wd) (C f : Addr) (fd : FuncData) : Prop where
 at_ : ∃ fo, W.K.lookup f = some fo ∧ fo.data = .func fd
 cell : ∃ c oc, fd.closure.lookup ("__class__" : Str) = some c ∧ W.K.lookup c = some oc ∧ oc.data = .cell (some (.ref C))
 code : ∃ cc occ vs file tf, fd.code = .ref cc ∧ W.K.lookup cc = some occ ∧ occ.data = .fields vs ∧ vs[2]? = some (.str file tf) ∧ ((W.prog.main.file : Str) == file) = true
 top : (W.prog.main.scope.names.lookup ("super" : Str)).isSome = false
 arg : ∃ ar : Arg, (fd.params.posonlyargs ++ fd.params.args).head? = some ar ∧ ar.arg = "self"
 kS : fd.scope.names.lookup ("super" : Str) = some .globalImplicit
 kC : fd.scope.names.lookup ("__class__" : Str) = some .free
 sup : nsIn W.K mainGlobals "super" = some none
 cls : ∃ oD cdD, W.K.lookup C = some oD ∧ oD.data = .cls cdD
 sub : mroIn W.K C (.ref C) = some true
 isList : mroIn W.K C (.type "list") = some true
section
variable {W : Wd} {Φ : Fx} {ρ ρ' : List Cell} {loc : Loc} {H H' : List AO} {s s1 s' : Shared} {P : Addr → Obj → Prop}
theorem super_eval {C f : Addr} {fd : FuncData} {xs : List (Str × Option Nat)} {n : Nat} {A : Around} {g : Heap} {L : Addr} {base : Bs} {fr : List Env} (O : (fxs fd f xs n A g L base fr).Ok W) (F : SuperFn W C f fd) (hx0 : xs[0]? = some (("self" : Str), none))
  {body : List Stmt} {p0 p1 apos pos : Pos} {name : Str} {cls id : String} {B : Builtin} {pl : Sem Bool} {Q : Value → Shared → Prop} {E : Value → Shared → Prop} {v : V} {i : Nat} {ys : List V} {fs : List (Str × V)}
  (hcl : cls = "method-wrapper" ∨ cls = "builtin_function_or_method") (hna : (name == ("__class__" : Str)) = false)
  (hgm : ∀ (s1 : Shared) so x A Q E pl, s1.heap.get? so = some { cls := .type "super", dict := none, data := .fields #[.ref C, .ref x, .ref C], slots := #[] } → W.K.In s1.heap → x ≠ C → Looks W.M s1.heap (isInstance (.ref x) (.type "list")) true →
   Q (.ref s1.heap.objs.size, []) { s1 with heap := s1.heap.push { cls := .type cls, data := .fields #[.builtin id, .ref x] }, toks := s1.toks + 1 } → wpAny W.M A (getMethod (.ref so) name pl) Q E s1)
  (hchk : ∀ (s1 : Shared) (A : Around) x d vs k od Q', W.K.In s1.heap → InstAt s1.heap x ⟨.ref C, some d, .seq (List.toArray vs) k, #[]⟩ C (some od) → Q' () s1 → wpAny W.M A (checkBoundCall id ⟨[.ref x], []⟩) Q' E s1) (hp : plainId id = true) (he : entryFor table id = some B)
  (heq : eval (.Call (.Attribute (.Call (.Name "super" p0) [] [] p1) name apos) [] [] pos) (callEnv fd L f) = (do
   let ov ← attributeBase (.Call (.Name "super" p0) [] [] p1) name (callEnv fd L f) (eval (.Call (.Name "super" p0) [] [] p1) (callEnv fd L f))
   standAt apos.atName
   let (f', first) ← holding [ov] (getMethod ov name pl)
   callWith pos f' first (backTo pos (starEach [] (callEnv fd L f))) []))
  (S : SI W (fxs fd f xs n A g L base fr) ρ loc H s) (hl : loc[0]? = some (some v)) (hv : seqOf? C H v = some (i, ys, fs))
  (h : ∀ s1 x d vs k es m, Stp (fxs fd f xs n A g L base fr) ρ ρ s s1 → SI W (fxs fd f xs n A g L base fr) ρ loc H s1 → InstR W.w s1.heap ((fxs fd f xs n A g L base fr).P ρ s1.heap) ρ i x d C (some ys) fs (.seq (List.toArray vs) k) es m → VRs ((fxs fd f xs n A g L base fr).P ρ s1.heap) ρ ys vs →
   wpAny W.M A.in1 (B ⟨[.ref x], []⟩) (fun fin s' => ∃ v, fin = .done (.ret v) ∧ Q v s') E s1) :
  PySem.wpAt W.M A (.func body (callEnv fd L f)) (eval (.Call (.Attribute (.Call (.Name "super" p0) [] [] p1) name apos) [] [] pos) (callEnv fd L f)) Q E s := by
 obtain ⟨m, Fm, lo⟩ := S.m
 have KI := S.KI O
 obtain ⟨fo, hf, hfd⟩ := F.at_
 obtain ⟨c, oc, hc1, hc2, hc3⟩ := F.cell
 obtain ⟨cc, occ, cvs, file, tf, k1, k2, k3, k4, k5⟩ := F.code
 obtain ⟨ar, a1, a2⟩ := F.arg
 obtain ⟨oD, cdD, d1, d2⟩ := F.cls
 have hn0 : (fxs fd f xs n A g L base fr).names[0]? = some (("self" : Str), none) := by
  show (namesAt L xs)[0]? = _
  unfold namesAt
  rw [List.getElem?_map, hx0]; rfl
 obtain ⟨X, x1, x2⟩ := lo 0 "self" none v hn0 hl
 have hks : (callEnv fd L f).kindOf "super" = some .globalImplicit := F.kS
 have hkc : (callEnv fd L f).kindOf "__class__" = some .free := F.kC
 have hself : (callEnv fd L f).kindOf "self" = some .local := O.nm 0 "self" none hn0
 obtain ⟨x, d, vs, k, es, m', rfl, rfl, hxi, I, hvs⟩ := S.seq hv x2
 refine ks_wpAt_MethodCall (pl := pl) ?_ heq
 refine ks_wpAt_super_base (ar := ar) hks hkc hna rfl (KI _ _ hf) hfd a1 k1 (KI _ _ k2) k3 k4 k5 F.top ?_
 have hg0 : s.heap.Ns (callEnv fd L f).globals W.mg := by
  have := O.glob
  rw [show (callEnv fd L f).globals = mainGlobals from this]
  exact O.T.g.keeps Fm.keep
 have hb0 : s.heap.Ns (callEnv fd L f).builtins W.mb := by
  have := O.bi
  rw [show (callEnv fd L f).builtins = builtinsNs from this]
  exact O.T.b.keeps Fm.keep
 refine ks_loadName_global O.kind hks (loadGlobal_builtin hg0 (mg_none_of O.K O.T.g F.sup) hb0 ((O.T.builtins _ (by decide +kernel)).trans (by first | rfl | kernel_rfl | decide +kernel)) ⟨rfl, ?_⟩)
 refine wpAny_loadName_free O.kind hkc hc1 ⟨_, KI _ _ hc2, hc3⟩ ?_
 rw [a2]
 refine wpAny_loadName_local O.kind hself Fm.ns x1 ?_
 obtain ⟨hh, gg, dd, t, os⟩ := s
 refine ks_wpAny_isType_cls (KI _ _ d1) d2 ⟨rfl, ?_⟩
 refine ks_wpAny_call_super (KI _ _ d1) d2 I.obj rfl (fun c e => by cases e) (looks_mroIn KI F.sub) (fun h' e1 kk => ?_)
 obtain ⟨t1, S1⟩ := S.keptH (h' := h') (tk := t) kk
 have xC : x ≠ C := by
  intro q
  have := I.obj
  rw [q, KI _ _ d1] at this
  cases this
  cases d2
 have I1 := t1
 obtain ⟨x', d', vs', k', es', m'', e2, e3, hxi', I', hvs'⟩ := S1.seq hv (t1.mono x2)
 cases e2
 refine hgm _ _ _ _ _ _ _ e1 (S1.KI O) xC (inst_looks (S1.KI O) I'.at F.isList) ?_
 have kp : Kp ({ heap := h', gens := gg, drawn := dd, toks := t, os := os } : Shared) { heap := h'.push { cls := .type cls, data := .fields #[.builtin id, .ref x] }, gens := gg, drawn := dd, toks := t + 1, os := os } := Kp.push
 have S2 := S1.kept kp
 obtain ⟨x'', d'', vs'', k'', es'', m3, e4, e5, hxi'', I'', hvs''⟩ := S2.seq hv ((t1.trans kp.stp).mono x2)
 cases e4
 have hb : (h'.push { cls := .type cls, data := .fields #[.builtin id, .ref x] }).get? h'.objs.size = some { cls := .type cls, data := .fields #[.builtin id, .ref x] } := Heap.get?_push_size _ rfl
 exact callWith_bound0 hb hcl (call_bound hb hcl (fun A Q' q => hchk _ A _ _ _ _ _ _ (S2.KI O) I''.at q) hp he (h _ _ _ _ _ _ _ (t1.trans kp.stp) S2 I'' hvs''))
end
end
end
section
section
section
variable {W : Wd} {Φ : Fx} {ρ ρ' : List Cell} {loc : Loc} {H H' : List AO} {s s' : Shared}
theorem lookup_snoc {α : Type} {x y : Str} {v : α} : ∀ {l : List (Str × α)}, (l ++ [(y, v)]).lookup x = (match l.lookup x with | some u => some u | none => if x == y then some v else none)
 | [] => by simp [List.lookup]; split <;> simp_all
 | (z, u) :: r => by
  rw [List.cons_append, List.lookup_cons, List.lookup_cons]
  cases x == z with
  | true => rfl
  | false => exact lookup_snoc (l := r)
theorem bindR_rel {P : Addr → Obj → Prop} {ρ : List Cell} {x : Str} : ∀ {ab bs}, BVs P ρ ab bs → ∀ {d : Option V} v, bindA x ab d = some v → (∃ X, bs.reverse.lookup x = some X ∧ VR P ρ v X) ∨ (bs.reverse.lookup x = none ∧ d = some v)
 | _, _, .nil, d, v, e => .inr ⟨rfl, e⟩
 | _, _, .cons (x := n) (v := u) (X := U) hv hs, d, v, e => by
  unfold bindA at e
  rw [List.reverse_cons, lookup_snoc]
  rcases bindR_rel hs v e with ⟨X, e1, e2⟩ | ⟨e1, e2⟩
  ·rw [e1]; exact .inl ⟨X, rfl, e2⟩
  ·rw [e1]
   by_cases q : x = n
   ·subst q
    simp only [if_true] at e2
    cases e2
    exact .inl ⟨U, by simp, hv⟩
   ·simp only [q, if_false] at e2
    refine .inr ⟨?_, e2⟩
    have : (x == n) = false := by simpa using q
    simp [this]
theorem noCells {sz : Nat} : ∀ {xs : List (Str × Option Nat)}, (∀ p ∈ xs, p.2 = none) → ((namesAt sz xs).filterMap (·.2)).Nodup
 | [], _ => List.nodup_nil
 | (y, none) :: r, h => noCells (xs := r) fun p hp => h p (.tail _ hp)
 | (y, some k) :: r, h => by have := h _ (.head _); cases this
theorem SI.enterS {n : Nat} {f : Addr} {fd : FuncData} {xs : List (Str × Option Nat)} {ab : List (Str × V)} {bs : List (Str × Value)} (O : Φ.Ok W) (S : SI W Φ ρ loc H s) (hn : n < Φ.lv) (hk : namesOk fd.scope xs = true)
  (hgl : fd.globals = mainGlobals) (hbi : fd.builtins = builtinsNs)
  (hb : BVs (Φ.P ρ s.heap) ρ ab bs)
  (hno : ∀ p ∈ xs, p.2 = none) {h' : Heap} {tk : Nat} (hns : h'.Ns s.heap.objs.size (fun y => bs.reverse.lookup y)) (hkeep : ∀ b o, s.heap.get? b = some o → h'.get? b = some o) :
  (fxs fd f xs n (Φ.A.deeper (callEnv fd s.heap.objs.size f)) (gOf Φ s ρ) s.heap.objs.size (Φ.push s.heap) (callEnv fd s.heap.objs.size f :: Φ.fr)).Ok W ∧
  SI W (fxs fd f xs n (Φ.A.deeper (callEnv fd s.heap.objs.size f)) (gOf Φ s ρ) s.heap.objs.size (Φ.push s.heap) (callEnv fd s.heap.objs.size f :: Φ.fr)) ρ (locA xs ab) H { s with heap := h', toks := tk } ∧ Kp s { s with heap := h', toks := tk } := by
 obtain ⟨hkf, hall, hnd⟩ := nameOk_of hk
 obtain ⟨m, F, l⟩ := S.m
 have p7 := S.p7
 have gk := fun b o (e : Φ.g.get? b = some o) => S.ground e
 have gs : ∀ b o, (gOf Φ s ρ).get? b = some o → s.heap.get? b = some o := fun b o e => of_hideAll _ e
 obtain ⟨oL, es, ep, eL, rL⟩ := F.ns
 have klt : s.heap.objs.size < h'.objs.size := by
  obtain ⟨o, _, _, e, _⟩ := hns
  exact Heap.lt_size e
 have kp : Kp s { s with heap := h', toks := tk } := ⟨hkeep, Nat.le_of_lt klt, rfl, id⟩
 have cs : ∀ c ∈ (namesAt s.heap.objs.size xs).filterMap (·.2), s.heap.objs.size < c ∧ ∃ v, h'.IsCell c v := fun c hc => by
  obtain ⟨y, k, hm, rfl⟩ := cellsAt_mem hc
  have := hno _ hm
  cases this
 have hup : UpX (Φ.L :: Φ.base.X) (Φ.L :: Φ.base.F) s.heap h' := S.upPush hkeep
 have pk : ∀ a o, Φ.P ρ s.heap a o → (fxs fd f xs n (Φ.A.deeper (callEnv fd s.heap.objs.size f)) (gOf Φ s ρ) s.heap.objs.size (Φ.push s.heap) (callEnv fd s.heap.objs.size f :: Φ.fr)).P ρ h' a o := fun a o z => ⟨hkeep _ _ z.1, fun hm => by
  have hlt := Heap.lt_size z.1
  refine mem_M_cases hm (fun h => ?_) (fun h => ?_) (fun h => ?_) fun h => ?_
  ·exact absurd hlt (by rw [h]; exact Nat.lt_irrefl _)
  ·exact absurd (Nat.lt_trans hlt (cs a h).1) (Nat.lt_irrefl _)
  ·exact z.2 (mem_M_mut h)
  ·exact z.2 (mem_M_T' h)⟩
 refine ⟨⟨?_, ?_, ?_, ?_, ?_, ?_, ?_, rfl, hgl, hbi, hkf, ?_, ?_, ?_, ?_⟩, ⟨⟨_, ⟨hns, fun b o e => hkeep b o (gs b o e), Nat.le_of_eq (hideAll_size _ _)⟩, ?_⟩, fun c hc => (cs c hc).2, ?_, ?_, ?_, ?_, S.tb.mono hkeep, S.gens, hup⟩, kp⟩
 ·exact O.K.keeps gk
 ·exact O.T.keeps gk
 ·exact Around.frames_deeper O.frames
 ·exact fun b o e => gk b o (O.stays b o e)
 ·intro h ⟨m', F'⟩
  intro hu
  refine .cons (by show fd.scope.kind ≠ _; rw [hkf]; decide) rfl F'.ns ?_ (funFrames_of (O.stack _ ⟨m, F⟩ S.up) fun e he b o hf ho => ?_)
  ·show Φ.base.b.get? s.heap.objs.size = none
   cases q : Φ.base.b.get? s.heap.objs.size with
   | none => rfl
   | some o => exact absurd (Heap.lt_size (F.keep _ _ (O.stays _ _ q))) (Nat.lt_irrefl _)
  ·have viaX : b ∈ Φ.L :: Φ.base.X → ∃ o', h.get? b = some o' ∧ o'.data = o.data := fun hb => by
    obtain ⟨o1, o2, u1, u2, u3, u4⟩ := hu b hb
    have u1 : s.heap.get? b = some o1 := u1
    rw [ho] at u1; cases u1
    exact ⟨o2, u2, u3⟩
   rcases O.off e he with h | ⟨b', o', h1, h2⟩ | ⟨b', hb, h1⟩
   ·have q : Φ.L = b := Option.some.inj (h.symm.trans hf)
    exact viaX (q ▸ .head _)
   ·have q : b' = b := Option.some.inj (h1.symm.trans hf)
    subst q
    have := F.keep _ _ h2
    rw [ho] at this; cases this
    exact ⟨_, F'.keep _ _ (gk _ _ h2), rfl⟩
   ·have q : b' = b := Option.some.inj (h1.symm.trans hf)
    exact viaX (q ▸ .tail _ hb)
 ·intro e he
  rcases List.mem_cons.mp he with rfl | he
  ·exact .inl rfl
  ·rcases O.off e he with h | ⟨b, o, h1, h2⟩ | ⟨b, hb, h1⟩
   ·exact .inr (.inr ⟨_, .head _, h⟩)
   ·exact .inr (.inl ⟨b, o, h1, gk b o h2⟩)
   ·exact .inr (.inr ⟨b, .tail _ hb, h1⟩)
 ·exact O.hh
 ·intro i y k h
  obtain ⟨k', e1, e2⟩ := mem_names h
  have hm := List.mem_of_getElem? e1
  cases k' with
  | none => subst e2; exact nameOk_local (hall _ hm)
  | some k' =>
   subst e2
   have := hno _ hm
   cases this
 ·show ((namesAt s.heap.objs.size xs).map (·.1)).Nodup
  unfold namesAt
  rw [List.map_map]; exact hnd
 ·have := O.depth
  show Φ.A.depth + 1 + 8 * n + 8 < _
  omega
 ·have := O.units
  show Φ.A.units + 3 + 100 * n + 100 < _
  omega
 ·intro i y k v hn' hl
  obtain ⟨k', e1, e2⟩ := mem_names hn'
  have hm := List.mem_of_getElem? e1
  have hl' : bindA y ab none = some v := by
   unfold locA at hl
   rw [List.getElem?_map, e1] at hl
   exact Option.some.inj hl
  cases k' with
  | none =>
   subst e2
   rcases bindR_rel hb v hl' with ⟨X, e3, e4⟩ | ⟨_, e⟩
   ·exact ⟨X, e3, e4.mono pk fun _ _ h => h⟩
   ·cases e
  | some k' =>
   have := hno _ hm
   cases this
 ·exact ⟨S.hp.1, fun i c o h1 h2 => (S.hp.2 i c o h1 h2).mono (fun a _ o h => hkeep a o h) pk fun _ _ h => h⟩
 ·unfold Fx.M
  rw [List.nodup_cons]
  refine ⟨fun hm => ?_, ?_⟩
  ·rcases List.mem_append.mp hm with h | h
   ·exact absurd (cs _ h).1 (Nat.lt_irrefl _)
   ·rcases List.mem_append.mp h with h | h
    ·exact S.fresh (mem_M_mut h)
    ·exact S.fresh (mem_M_T' h)
  ·rw [List.nodup_append]
   refine ⟨noCells hno, ?_, fun a ha b hb' e => ?_⟩
   ·rw [List.nodup_append]
    exact ⟨p7, S.ndT', fun a ha b hb' e => notT' S a ha (e ▸ hb')⟩
   ·subst e
    have q := (cs _ ha).1
    rcases List.mem_append.mp hb' with h | h
    ·exact absurd (Nat.lt_trans (S.lt a (mem_M_mut h)) q) (Nat.lt_irrefl _)
    ·exact absurd (Nat.lt_trans (S.lt a (mem_M_T' h)) q) (Nat.lt_irrefl _)
 ·intro a ha
  show (gOf Φ s ρ).get? a = none
  have up : s.heap.objs.size ≤ a → (gOf Φ s ρ).get? a = none := fun hle => by
   cases q : (gOf Φ s ρ).get? a with
   | none => rfl
   | some o => exact absurd (Heap.lt_size (gs _ _ q)) (Nat.not_lt.mpr hle)
  unfold Fx.M at ha
  rcases List.mem_cons.mp ha with h | h
  ·exact up (Nat.le_of_eq h.symm)
  ·rcases List.mem_append.mp h with h | h
   ·exact up (Nat.le_of_lt (cs _ h).1)
   ·exact hideAll_none _ h
 ·intro a ha
  refine mem_M_cases ha (fun h => ?_) (fun h => ?_) (fun h => ?_) fun h => ?_
  ·exact h ▸ klt
  ·obtain ⟨v, o, e, _⟩ := (cs _ h).2
   exact Heap.lt_size e
  ·exact Nat.lt_trans (S.lt a (mem_M_mut h)) klt
  ·exact Nat.lt_trans (S.lt a (mem_M_T' h)) klt
end
end
end
section
section
noncomputable def Wc (w : World) (p : Program) (loose : List Str) (mean : ExcName → Option Value) (mg mb : Str → Option Value) : Wd := ⟨Challenge.rw_tv0042_01.row.prog, w, Mine.K0 w.params, p, loose, mean, mg, mb⟩
section
variable {w : World} {p : Program} {loose : List Str} {mean : ExcName → Option Value} {mg mb : Str → Option Value}
noncomputable def bindP (ps : List Str) (args : List V) : Option (List (Str × V)) := if args.length = ps.length then some (ps.zip args) else none
theorem bnd1 {W : Wd} {fd : FuncData} {xs : List (Str × Option Nat)} {a : Str} (h : ∀ X, bindArgs fd ⟨[X], []⟩ = pure [(a, X)]) (hx : a ∈ xs.map (·.1)) : Bnd W fd xs (bindP [a]) where
 binds := fun args ab e P ρ Vs s _ hv => by
  unfold bindP at e
  split at e
  ·rename_i hl
   cases e
   obtain _ | ⟨r1, hv⟩ := hv
   ·cases hl
   ·obtain _ | ⟨r2, hv⟩ := hv
    ·exact ⟨_, BindsTo.of_eq (h _), .cons r1 .nil⟩
    ·simp at hl
  ·cases e
 names := fun args ab e x hm => by
  unfold bindP at e
  split at e
  ·cases e
   rcases args with _ | ⟨u, _ | _⟩ <;> simp at hm
   ·subst hm; exact hx
   ·rcases hm with rfl; exact hx
  ·cases e
end
end
end
section
section
noncomputable def nodupB : List Str → Bool
 | [] => true
 | x :: r => !r.contains x && nodupB r
theorem nodup_of : ∀ {l : List Str}, nodupB l = true → l.Nodup
 | [], _ => List.nodup_nil
 | x :: r, h => by
  unfold nodupB at h
  simp only [Bool.and_eq_true, Bool.not_eq_true'] at h
  rw [List.nodup_cons]
  exact ⟨by have := h.1; simpa using this, nodup_of h.2⟩
theorem cb_of {Φ : Fx} {sc : Scope} {cl : List (Str × Addr)} {ys : List Str} {cs : List Nat} (h1 : closureFor sc Φ.env = pure cl) (h2 : sc.kind = .function) (h3 : (sc.names.all fun x => x.2 != .cell) = true) (h4 : (sc.names.all fun x => x.2 != .local || sc.names.lookup x.1 == some .local) = true)
  (h5 : (ys.all fun y => sc.names.lookup y == some .local) = true) (h6 : ∀ i ∈ cs, ∃ x c, Φ.names[i]? = some (x, some c) ∧ sc.names.lookup x = some .free ∧ cl.lookup x = some c) (h7 : nodupB ((cNames Φ ys cs).map (·.1)) = true) : CB Φ sc cl ys cs where
 clos := h1
 kind := h2
 nocell := fun x hx => by have := List.all_eq_true.mp h3 x hx; simpa using this
 names := fun x hx hl => by
  have := List.all_eq_true.mp h4 x hx
  simp only [Bool.or_eq_true] at this
  rcases this with h | h
  ·rw [hl] at h; simp at h
  ·simpa using h
 own := fun y hy => by have := List.all_eq_true.mp h5 y hy; simpa using this
 cap := h6
 nd := nodup_of h7
section
variable {w : World} {p : Program} {loose : List Str} {mean : ExcName → Option Value} {mg mb : Str → Option Value}
theorem boot_range : bootBuiltins "range" = some (.type "range") := by kernel_rfl
end
end
end
section
section
noncomputable def SXt (W : Wd) (Φ : Fx) (body : List Stmt) (t : Sem Flow) (f : SF) : Prop := ∀ loc H r loc' H' ρ s (Q : Flow → Shared → Prop) (E : Value → Shared → Prop), f loc H = some (r, loc', H') → SI W Φ ρ loc H s →
 SX.K W Φ ρ s Q r loc' H' → PySem.wpAt W.M Φ.A (.func body Φ.env) t Q E s
noncomputable def SEt (W : Wd) (Φ : Fx) (body : List Stmt) (e : Expr) (f : EF) : Prop := ∀ loc H v H' ρ s (Q : Value → Shared → Prop) (E : Value → Shared → Prop), f loc H = some (v, H') → SI W Φ ρ loc H s →
 SE.K W Φ ρ loc s Q v H' → PySem.wpAt W.M Φ.A (.func body Φ.env) (eval e Φ.env) Q E s
section
variable {W : Wd} {Φ : Fx} {ρ ρ' : List Cell} {loc : Loc} {H H' : List AO} {s s' : Shared} {body : List Stmt}
theorem SX.t {t : Sem Flow} {f : SF} (h : SX W Φ t f) : SXt W Φ body t f := fun loc H r loc' H' ρ s Q E hf S k => wpAt_of_wpAny (h _ _ _ _ _ _ _ _ _ hf S k)
theorem sxt_cons {st : Stmt} {rest : List Stmt} {f g : SF} (hs : SXt W Φ body (exec st Φ.env) f) (hr : SXt W Φ body (execs rest Φ.env) g) : SXt W Φ body (execs (st :: rest) Φ.env) (seqF f g) := fun loc H r loc' H' ρ s Q E hf S k =>
 obp3 hf fun a l1 H1 e1 hf => ks_wpAt_execs_cons (hs _ _ _ _ _ _ _ _ _ e1 S fun X s1 ρ1 t1 S1 r1 => r1.seq hf (fun hf => hr _ _ _ _ _ _ _ _ _ hf S1 fun X s2 ρ2 t2 S2' r2 => k _ _ _ (t1.trans t2) S2' r2) fun hf => k.ofS hf _ _ _ t1 S1 r1)
theorem sxt_return {e : Expr} {pos : Pos} {f : EF} (he : SEt W Φ body e f) : SXt W Φ body (exec (.Return (some e) pos) Φ.env) (retF f) := fun loc H r loc' H' ρ s Q E hf S k => by
 unfold retF at hf
 refine omp2 hf fun v H1 e1 hf => ?_
 cases hf
 exact ks_wpAt_Return_some (he _ _ _ _ _ _ _ _ e1 S fun X s1 ρ1 t1 S1 v1 => k _ _ _ t1 S1 v1)
theorem sxt_expr {e : Expr} {pos : Pos} {f : EF} (he : SEt W Φ body e f) (hi : interactive Φ.env = false) (hs : swapsWith e none pos.line Φ.env = pure false) : SXt W Φ body (exec (.Expr e pos) Φ.env) (exprF f) := fun loc H r loc' H' ρ s Q E hf S k => by
 unfold exprF at hf
 refine omp2 hf fun v H1 e1 hf => ?_
 cases hf
 exact ks_wpAt_Expr_any (he _ _ _ _ _ _ _ _ e1 S fun X s1 ρ1 t1 S1 v1 => k _ _ _ t1 S1 trivial) hi hs
theorem fn_okS {n : Nat} {f : Addr} {fo : Obj} {fd : FuncData} {body : List Stmt} {xs : List (Str × Option Nat)} {bind : List V → Option (List (Str × V))} {B : SF}
  (ho : W.K.lookup f = some fo) (hd : fo.data = .func fd) (hb : fd.body = .stmts body) (hgl : fd.globals = mainGlobals) (hbi : fd.builtins = builtinsNs) (hcd : codeIn W.K fd.code fd.qualname = true)
  (hco : fd.scope.isCoroutine = false) (hgen : fd.scope.isGenerator = false) (hk : namesOk fd.scope xs = true) (hno : ∀ p ∈ xs, p.2 = none) (hcells : (fd.scope.names.all fun x => x.2 != .cell) = true) (hbind : Bnd W fd xs bind)
  (hbody : ∀ A g L base fr, (fxs fd f xs n A g L base fr).Ok W → SXt W (fxs fd f xs n A g L base fr) body (execs body (callEnv fd L f)) B) :
  FnOk W n (.ref f) (bodyF xs bind B) := fun Φ O hn loc H args v H' Vs ρ s R hf S hv k => by
 unfold bodyF at hf
 refine obp hf fun ab e1 hf => ?_
 refine obp3 hf fun fl loc' H1 e2 hf => ?_
 obtain ⟨m, F, l⟩ := S.m
 have KI : W.K.In s.heap := O.K.keeps F.keep
 obtain ⟨bs, hbs, hb1⟩ := hbind.binds _ _ e1 _ _ _ _ KI hv
 obtain ⟨hkf, hall, hnd⟩ := nameOk_of hk
 refine ks_codeAny_call_defAt (by have := O.depth; omega) (KI _ _ ho) hd (O.T.nolimit.keeps F.keep) (codeRec_of KI hcd) hb hbs (fun x hx => by have := List.all_eq_true.mp hcells x hx; simpa using this) (fun y hy => ?_) (fun h₀ hns hkeep => ?_) hco hgen hkf
 ·have hm : y.1 ∈ xs.map (·.1) := hbind.names _ _ e1 _ (by rw [← hb1.names]; exact List.mem_map_of_mem hy)
  obtain ⟨⟨z, k⟩, hz, e⟩ := List.mem_map.mp hm
  have e : z = y.1 := e
  have hk0 : k = none := hno _ hz
  subst hk0
  exact e ▸ nameOk_local (hall _ hz)
 ·obtain ⟨O', S', kp⟩ := SI.enterS (tk := s.toks + bs.length) O S hn hk hgl hbi hb1 hno hns hkeep
  refine hbody _ _ _ _ _ O' _ _ _ _ _ _ _ _ _ e2 S' fun X s2 ρ2 t2 S2 r2 => ?_
  obtain ⟨stp, S3, pm⟩ := SI.leave S kp (Nat.le_refl _) (fun c hc => by
   obtain ⟨y, q, hq, rfl⟩ := cellsAt_mem hc
   have := hno _ hq
   cases this) rfl rfl rfl t2 S2
  exact r2.body hf (fun v e => k _ _ _ stp (e ▸ S3) (v.monoF pm fun _ _ h => h)) fun X v e => k _ _ _ stp (e ▸ S3) (v.monoF pm fun _ _ h => h)
end
end
end
section
section
structure AlongOk (W : Wd) (C : Addr) (cd : ClassData) : Prop where
 cls : clsIn W.K C = some cd
 opq : nsIn W.K cStatics "thirdparty.any" = some none
 len : alongIn W.K "__len__" ((cd.mro.dropWhile (· != .ref C)).drop 1) = some (some (.builtin "list.__len__"))
 init : alongIn W.K "__init__" ((cd.mro.dropWhile (· != .ref C)).drop 1) = some (some (.builtin "list.__init__"))
 pop : alongIn W.K "pop" ((cd.mro.dropWhile (· != .ref C)).drop 1) = some (some (.builtin "list.pop"))
 qual : cd.qualname = PySem.Str.ofString "_Accumulator"
 noMod : mroIn W.K C (.type "module") = some false
 meta_ : typeIn W.K (.ref C) = some (.type "type")
section
variable {W : Wd} {ρ ρ' : List Cell} {loc : Loc} {H H' : List AO} {s s' : Shared} {body : List Stmt}
theorem looks_mro {C : Addr} {cd : ClassData} {h : Heap} (X : W.K.In h) (hc : clsIn W.K C = some cd) : Looks W.M h (mroOf (.ref C)) cd.mro :=
 fun A Q E s k q => wpAny_bind ((looks_clsIn X hc) A _ E s k (wpAny_pure q))
noncomputable def selfSeq (C : Addr) (loc : Loc) (H : List AO) : Option (Nat × List V × List (Str × V)) := loc[0]?.join.bind (seqOf? C H)
theorem selfSeq_of {C : Addr} {q} (h : selfSeq C loc H = some q) : ∃ v, loc[0]? = some (some v) ∧ seqOf? C H v = some q := by
 unfold selfSeq at h
 refine obp h fun v e1 e2 => ?_
 refine ⟨v, ?_, e2⟩
 cases q : loc[0]? with
 | none => rw [q] at e1; cases e1
 | some y => rw [q] at e1; simp at e1; rw [e1]
noncomputable def superLen (C : Addr) : EF := fun loc H => (selfSeq C loc H).bind fun q => if q.2.1.length ≤ 100000 then some (.int q.2.1.length, H) else none
theorem set_super_len {C f : Addr} {fd : FuncData} {cd : ClassData} {xs : List (Str × Option Nat)} {n : Nat} {A : Around} {g : Heap} {L : Addr} {base : Bs} {fr : List Env} (O : (fxs fd f xs n A g L base fr).Ok W) (F : SuperFn W C f fd) (B : AlongOk W C cd) (hx0 : xs[0]? = some (("self" : Str), none))
  {p0 p1 apos pos : Pos} {pl : Sem Bool}
  (heq : eval (.Call (.Attribute (.Call (.Name "super" p0) [] [] p1) "__len__" apos) [] [] pos) (callEnv fd L f) = (do
   let ov ← attributeBase (.Call (.Name "super" p0) [] [] p1) "__len__" (callEnv fd L f) (eval (.Call (.Name "super" p0) [] [] p1) (callEnv fd L f))
   standAt apos.atName
   let (f', first) ← holding [ov] (getMethod ov "__len__" pl)
   callWith pos f' first (backTo pos (starEach [] (callEnv fd L f))) [])) :
  SEt W (fxs fd f xs n A g L base fr) body (.Call (.Attribute (.Call (.Name "super" p0) [] [] p1) "__len__" apos) [] [] pos) (superLen C) := fun loc H v H' ρ s Q E hf S k => by
 unfold superLen at hf
 refine obp3 hf fun i ys fs e1 hf2 => ?_
 obtain ⟨u, hl, hv⟩ := selfSeq_of e1
 dsimp only at hf2
 split at hf2
 ·rename_i hz
  cases hf2
  refine super_eval O F hx0 (B := Builtin.«list.__len__») (cls := "method-wrapper") (id := "list.__len__") (.inl rfl) (by decide) (fun s1 so x A Q E pl h1 KI xC hi q => ?_) (fun s1 A x d vs k od Q' KI I q => wpAny_of_eq (chk_len _) q) (by decide +kernel) entry_list_len heq S hl hv fun s1 x d vs k' es m t1 S1 I hvs => ?_
  ·obtain ⟨hh, gg, dd, t, os⟩ := s1
   exact super_getm sup_len h1 (looks_opaque KI B.opq) (looks_mro KI B.cls) rfl KI B.len xC hi q
  ·have e := hvs.length
   show wpAny _ _ (seqSize x >>= _) _ _ s1
   unfold seqSize
   refine wpAny_bind (wpAny_bind (wpAny_loadPart I.obj (wpAny_pure ?_)))
   refine wpAny_bind (wpAny_mkInt (wpAny_pure ⟨_, rfl, ?_⟩))
   have := k (.int (vs.toArray.size : Nat) s1.toks) { s1 with toks := s1.toks + 1 } ρ (t1.trans Kp.toks.stp) (S1.kept Kp.toks)
   simp only [List.size_toArray, ← e] at this ⊢
   exact this (.int _ _)
 ·cases hf2
noncomputable def superInit (C : Addr) : EF := fun loc H => (selfSeq C loc H).bind fun q => if q.2.1.length ≤ 1000 then some (.none, H.set q.1 (.inst C (some []) q.2.2)) else none
theorem set_super_init {C f : Addr} {fd : FuncData} {cd : ClassData} {xs : List (Str × Option Nat)} {n : Nat} {A : Around} {g : Heap} {L : Addr} {base : Bs} {fr : List Env} (O : (fxs fd f xs n A g L base fr).Ok W) (F : SuperFn W C f fd) (B : AlongOk W C cd) (hx0 : xs[0]? = some (("self" : Str), none))
  {p0 p1 apos pos : Pos} {pl : Sem Bool}
  (heq : eval (.Call (.Attribute (.Call (.Name "super" p0) [] [] p1) "__init__" apos) [] [] pos) (callEnv fd L f) = (do
   let ov ← attributeBase (.Call (.Name "super" p0) [] [] p1) "__init__" (callEnv fd L f) (eval (.Call (.Name "super" p0) [] [] p1) (callEnv fd L f))
   standAt apos.atName
   let (f', first) ← holding [ov] (getMethod ov "__init__" pl)
   callWith pos f' first (backTo pos (starEach [] (callEnv fd L f))) [])) :
  SEt W (fxs fd f xs n A g L base fr) body (.Call (.Attribute (.Call (.Name "super" p0) [] [] p1) "__init__" apos) [] [] pos) (superInit C) := fun loc H v H' ρ s Q E hf S k => by
 unfold superInit at hf
 refine obp3 hf fun i ys fs e1 hf2 => ?_
 obtain ⟨u, hl, hv⟩ := selfSeq_of e1
 dsimp only at hf2
 split at hf2
 ·rename_i hz
  cases hf2
  refine super_eval O F hx0 (B := Builtin.«list.__init__») (cls := "method-wrapper") (id := "list.__init__") (.inl rfl) (by decide) (fun s1 so x A Q E pl h1 KI xC hi q => ?_) (fun s1 A x d vs k od Q' KI I q => wpAny_of_eq (chk_init _) q) (by decide +kernel) PySem.F.entry_list_init heq S hl hv fun s1 x d vs k' es m t1 S1 I hvs => ?_
  ·obtain ⟨hh, gg, dd, t, os⟩ := s1
   exact super_getm sup_init h1 (looks_opaque KI B.opq) (looks_mro KI B.cls) rfl KI B.init xC hi q
  ·have e := hvs.length
   have hmap : Obj.mapSeq (fun _ => #[]) ⟨.ref C, some d, .seq vs.toArray k', #[]⟩ = ⟨.ref C, some d, .seq #[] (if (#[] : Array Value).size == vs.toArray.size then k' else k' + 1), #[]⟩ := by
    unfold Obj.mapSeq; rfl
   obtain ⟨k2, hmap⟩ : ∃ k2, Obj.mapSeq (fun _ => #[]) ⟨.ref C, some d, .seq vs.toArray k', #[]⟩ = ⟨.ref C, some d, .seq (List.toArray []) k2, #[]⟩ := ⟨_, hmap⟩
   have hsb : Heap.SameBut x s1.heap (s1.heap.update x (Obj.mapSeq (fun _ => #[]))) := Heap.SameBut.update ..
   have hg : (s1.heap.update x (Obj.mapSeq (fun _ => #[]))).get? x = some ⟨.ref C, some d, .seq (List.toArray []) k2, #[]⟩ := by
    rw [Heap.get?_update_self _ I.obj (by rw [hmap]; rfl), hmap]
   have dm : x ∈ cellAs (x, some d) := by simp [cellAs]
   have aM := mem_M_mut (Φ := fxs fd f xs n A g L base fr) (mem_mutA I.cell dm)
   have had : d ≠ x := by
    intro e
    have := I.obj
    rw [← e, I.dict] at this
    cases this
   have hd' := hsb.extBut d _ had I.dict
   obtain ⟨S6, t6⟩ := S1.upd (o' := .inst C (some []) fs) (tk := s1.toks) I.cell dm hsb (seq_nofields I.obj rfl) ⟨d, es, m, _, _, rfl, hg, .nil, hd', I.fs.mono (fun b o z => SI.mono_but aM hsb.extBut z) fun _ _ h => h⟩
   have fin := k .none _ ρ (t1.trans t6) S6 .none
   show wpAny _ _ (Builtin.List.listItems (.ref x) >>= _) _ _ s1
   refine wpAny_bind ?_
   unfold Builtin.List.listItems
   refine wpAny_bind (wpAny_seqItems I.obj rfl (wpAny_pure ?_))
   refine wpAny_bind (m := updateSeq x (fun _ => #[])) (wpAny_updateSeq I.obj rfl ?_ (by simp only [List.size_toArray]; rw [sizeLine_eq]; omega) (Nat.zero_le _))
   refine wpAny_bind (wpAny_letGo ?_)
   exact wpAny_pure ⟨_, rfl, fin⟩
 ·cases hf2
theorem VRs.getLast {P : Addr → Obj → Prop} {xs : List V} {vs : List Value} (h : VRs P ρ xs vs) {x : V} (e : xs.getLast? = some x) : ∃ X, vs.getLast? = some X ∧ VR P ρ x X := by
 rw [List.getLast?_eq_getElem?] at e
 obtain ⟨X, e1, e2⟩ := h.get e
 refine ⟨X, ?_, e2⟩
 rw [List.getLast?_eq_getElem?, ← h.length]
 exact e1
noncomputable def superPop (C : Addr) : EF := fun loc H => (selfSeq C loc H).bind fun q => if q.2.1.length ≤ 1000 then q.2.1.getLast?.map fun y => (y, H.set q.1 (.inst C (some q.2.1.dropLast) q.2.2)) else none
theorem set_super_pop {C f : Addr} {fd : FuncData} {cd : ClassData} {xs : List (Str × Option Nat)} {n : Nat} {A : Around} {g : Heap} {L : Addr} {base : Bs} {fr : List Env} (O : (fxs fd f xs n A g L base fr).Ok W) (F : SuperFn W C f fd) (B : AlongOk W C cd) (hx0 : xs[0]? = some (("self" : Str), none))
  {p0 p1 apos pos : Pos} {pl : Sem Bool}
  (heq : eval (.Call (.Attribute (.Call (.Name "super" p0) [] [] p1) "pop" apos) [] [] pos) (callEnv fd L f) = (do
   let ov ← attributeBase (.Call (.Name "super" p0) [] [] p1) "pop" (callEnv fd L f) (eval (.Call (.Name "super" p0) [] [] p1) (callEnv fd L f))
   standAt apos.atName
   let (f', first) ← holding [ov] (getMethod ov "pop" pl)
   callWith pos f' first (backTo pos (starEach [] (callEnv fd L f))) [])) :
  SEt W (fxs fd f xs n A g L base fr) body (.Call (.Attribute (.Call (.Name "super" p0) [] [] p1) "pop" apos) [] [] pos) (superPop C) := fun loc H v H' ρ s Q E hf S k => by
 unfold superPop at hf
 refine obp3 hf fun i ys fs e1 hf2 => ?_
 obtain ⟨u, hl, hv⟩ := selfSeq_of e1
 dsimp only at hf2
 split at hf2
 ·rename_i hz
  refine omp hf2 fun y ey hf3 => ?_
  cases hf3
  refine super_eval O F hx0 (B := Builtin.«list.pop») (cls := "builtin_function_or_method") (id := "list.pop") (.inr rfl) (by decide) (fun s1 so x A Q E pl h1 KI xC hi q => ?_) (fun s1 A x d vs k od Q' KI I q => chk_pop KI I (fun c e => by cases e) B.noMod B.cls B.qual B.meta_ q) (by decide +kernel) PySem.F.entry_list_pop heq S hl hv fun s1 x d vs k' es m t1 S1 I hvs => ?_
  ·obtain ⟨hh, gg, dd, t, os⟩ := s1
   exact super_getm sup_pop h1 (looks_opaque KI B.opq) (looks_mro KI B.cls) rfl KI B.pop xC hi q
  ·have e := hvs.length
   obtain ⟨Y, eY, rY⟩ := hvs.getLast ey
   have hdl : VRs ((fxs fd f xs n A g L base fr).P ρ s1.heap) ρ ys.dropLast vs.dropLast := by rw [List.dropLast_eq_take, List.dropLast_eq_take, ← e]; exact hvs.take _
   have hne : ys ≠ [] := fun q => by rw [q] at ey; cases ey
   have hpos : 0 < ys.length := List.length_pos_iff.mpr hne
   obtain ⟨k2, hmap⟩ : ∃ k2, Obj.mapSeq (·.eraseIdxIfInBounds (vs.length - 1)) ⟨.ref C, some d, .seq vs.toArray k', #[]⟩ = ⟨.ref C, some d, .seq (List.toArray vs.dropLast) k2, #[]⟩ := by
    unfold Obj.mapSeq
    dsimp only
    have : vs.toArray.eraseIdxIfInBounds (vs.length - 1) = vs.dropLast.toArray := by
     rw [List.eraseIdxIfInBounds_toArray, List.eraseIdx_eq_dropLast (by omega)]
    rw [this]
    exact ⟨_, rfl⟩
   have hsb : Heap.SameBut x s1.heap (s1.heap.update x (Obj.mapSeq (·.eraseIdxIfInBounds (vs.length - 1)))) := Heap.SameBut.update ..
   have hg : (s1.heap.update x (Obj.mapSeq (·.eraseIdxIfInBounds (vs.length - 1)))).get? x = some ⟨.ref C, some d, .seq (List.toArray vs.dropLast) k2, #[]⟩ := by
    rw [Heap.get?_update_self _ I.obj (by rw [hmap]; rfl), hmap]
   have dm : x ∈ cellAs (x, some d) := by simp [cellAs]
   have aM := mem_M_mut (Φ := fxs fd f xs n A g L base fr) (mem_mutA I.cell dm)
   have had : d ≠ x := by
    intro e
    have := I.obj
    rw [← e, I.dict] at this
    cases this
   have hd' := hsb.extBut d _ had I.dict
   have pm := fun b o (z : (fxs fd f xs n A g L base fr).P ρ s1.heap b o) => SI.mono_but aM hsb.extBut z
   obtain ⟨S6, t6⟩ := S1.upd (o' := .inst C (some ys.dropLast) fs) (tk := s1.toks) I.cell dm hsb (seq_nofields I.obj rfl) ⟨d, es, m, _, _, rfl, hg, hdl.mono pm fun _ _ h => h, hd', I.fs.mono pm fun _ _ h => h⟩
   have fin := k Y _ ρ (t1.trans t6) S6 (rY.mono pm fun _ _ h => h)
   show wpAny _ _ (Builtin.List.listItems (.ref x) >>= _) _ _ s1
   refine wpAny_bind ?_
   unfold Builtin.List.listItems
   refine wpAny_bind (wpAny_seqItems I.obj rfl (wpAny_pure ?_))
   have h0 : vs.toArray.isEmpty = false := by
    cases vs with
    | nil => rw [show ([] : List Value).length = 0 from rfl] at e; omega
    | cons _ _ => rfl
   rw [h0]
   simp only [Bool.false_eq_true, if_false]
   have h1 : ((seqIndex? (-1) vs.toArray.size).bind fun k => vs.toArray[k]?.map (k, ·)) = some (vs.length - 1, Y) := by
    have : seqIndex? (-1) vs.toArray.size = some (vs.length - 1) := by
     have hp : 0 < vs.length := by omega
     simp only [List.size_toArray]
     unfold seqIndex?
     have hlt : (-1 : Int) < 0 := by decide
     simp only [hlt, if_true]
     have h3 : (0 ≤ (-1 : Int) + (vs.length : Int) && decide ((-1 : Int) + (vs.length : Int) < (vs.length : Int))) = true := by
      simp only [Bool.and_eq_true, decide_eq_true_eq]; omega
     simp only [h3, if_true]
     congr 1
     omega
    rw [this]
    have hv2 : vs[vs.length - 1]? = some Y := by rw [← List.getLast?_eq_getElem?]; exact eY
    simp [hv2]
   first
    | rw [h1]
    | (refine wpAny_bind (wpAny_pure ?_); rw [h1])
   refine wpAny_bind (m := updateSeq x (·.eraseIdxIfInBounds (vs.length - 1))) (wpAny_updateSeq I.obj rfl ?_ (by simp only [List.size_toArray]; rw [sizeLine_eq]; omega) ?_)
   ·exact wpAny_pure ⟨_, rfl, fin⟩
   ·rw [List.eraseIdxIfInBounds_toArray]; simp only [List.size_toArray]; rw [sizeLine_eq]; have := List.length_eraseIdx_le vs (vs.length - 1); omega
 ·cases hf2
end
end
end
section
section
section
variable {w : World} {p : Program} {loose : List Str} {mean : ExcName → Option Value} {mg mb : Str → Option Value}
theorem along178 : ∃ cd, AlongOk (Wc w p loose mean mg mb) 178 cd := by
 refine ⟨?cd, ⟨?c1, ?_, ?_, ?_, ?_, ?_, ?_, ?_⟩⟩
 case c1 => exact rfl
 all_goals rfl
theorem f175 : FnOk (Wc w p loose mean mg mb) 0 (.ref 175) (bodyF [("self", none)] (bindP ["self"]) (seqF (retF (superLen 178)) fun loc H => some (.next, loc, H))) := by
 obtain ⟨cd, B⟩ := along178 (w := w) (p := p) (loose := loose) (mean := mean) (mg := mg) (mb := mb)
 refine fn_okS (fo := ?fo) (fd := ?fd) (body := ?body) ?ho ?hd ?hb ?hgl ?hbi ?hcd ?hco ?hgen ?hk ?hno ?hcells ?hbind ?hbody
 case ho => exact rfl
 case hd => exact rfl
 case hb => exact rfl
 case hgl => rfl
 case hbi => rfl
 case hcd => rfl
 case hco => rfl
 case hgen => rfl
 case hk => decide
 case hno => intro q hq; simp at hq; subst hq; rfl
 case hcells => rfl
 case hbind => exact bnd1 (fun X => rfl) (by decide)
 case hbody =>
  intro A g L base fr O
  refine sxt_cons (sxt_return (set_super_len O ⟨⟨_, rfl, rfl⟩, ⟨_, _, rfl, rfl, rfl⟩, ⟨_, _, _, _, _, rfl, rfl, rfl, rfl, by rfl⟩, by rfl, ⟨_, rfl, rfl⟩, rfl, rfl, rfl, ⟨_, _, rfl, rfl⟩, rfl, rfl⟩ B rfl (by rfl))) sx_nil.t
end
end
end
section
section
section
variable {w : World} {p : Program} {loose : List Str} {mean : ExcName → Option Value} {mg mb : Str → Option Value}
theorem sg178 {f : Addr} {name : Str} (hf : findIn (Wc w p loose mean mg mb).K (.ref 178) name = some (some (.ref f))) (ht : typeIn (Wc w p loose mean mg mb).K (.ref f) = some (.type "function")) : SGm (Wc w p loose mean mg mb) name (.ref f) (isInst 178 name) :=
 sg_fn (ga := "list.__getattribute__") (by rfl) (by decide +kernel) (by rfl) hf ht
end
end
end
section
section
theorem zip_bvs {P : Addr → Obj → Prop} {ρ : List Cell} {ps : List Str} {args : List V} {Vs : List Value} (h : VRs P ρ args Vs) : args.length = ps.length → BVs P ρ (ps.zip args) (ps.zip Vs) :=
 h.ind (m := fun args Vs => ∀ {ps : List Str}, args.length = ps.length → BVs P ρ (ps.zip args) (ps.zip Vs)) (fun {ps} e => List.eq_nil_of_length_eq_zero e.symm ▸ .nil) fun {_ _ _ _} a _ ih {ps} => List.casesOn ps (fun e => absurd e (Nat.succ_ne_zero _)) fun p ps e => .cons a (ih (Nat.succ.inj e))
theorem ln0 {α : Type} {P : List α → Prop} (k : P []) : ∀ l, l.length = 0 → P l := fun l h => List.eq_nil_of_length_eq_zero h ▸ k
theorem lnS {α : Type} {n : Nat} {P : List α → Prop} (k : ∀ a l, l.length = n → P (a :: l)) : ∀ l, l.length = n + 1 → P l := fun l => List.casesOn l (fun h => absurd h.symm (Nat.succ_ne_zero _)) fun a l h => k a l (Nat.succ.inj h)
theorem bndG {W : Wd} {fd : FuncData} {xs : List (Str × Option Nat)} {ps : List Str} (h : ∀ Xs : List Value, Xs.length = ps.length → bindArgs fd ⟨Xs, []⟩ = pure (ps.zip Xs)) (hx : ∀ a ∈ ps, a ∈ xs.map (·.1)) : Bnd W fd xs (bindP ps) where
 binds := fun args ab e P ρ Vs s _ hv => ifs e fun hl q => ⟨_, BindsTo.of_eq (h Vs (hv.length ▸ hl)), q ▸ zip_bvs hv hl⟩
 names := fun args ab e x hm => ifs e fun _ q => by
  subst q
  obtain ⟨q, hq, rfl⟩ := List.mem_map.mp hm
  exact hx _ (List.of_mem_zip hq).1
theorem bnd2 {W : Wd} {fd : FuncData} {xs : List (Str × Option Nat)} {a b : Str} (h : ∀ X Y, bindArgs fd ⟨[X, Y], []⟩ = pure [(a, X), (b, Y)]) (ha : a ∈ xs.map (·.1)) (hb : b ∈ xs.map (·.1)) : Bnd W fd xs (bindP [a, b]) :=
 bndG (lnS fun X => lnS fun Y => ln0 (h X Y)) (List.forall_mem_cons.mpr ⟨ha, List.forall_mem_cons.mpr ⟨hb, fun _ h => absurd h List.not_mem_nil⟩⟩)
theorem bnd3 {W : Wd} {fd : FuncData} {xs : List (Str × Option Nat)} {a b c : Str} (h : ∀ X Y Z, bindArgs fd ⟨[X, Y, Z], []⟩ = pure [(a, X), (b, Y), (c, Z)]) (ha : a ∈ xs.map (·.1)) (hb : b ∈ xs.map (·.1)) (hc : c ∈ xs.map (·.1)) : Bnd W fd xs (bindP [a, b, c]) :=
 bndG (lnS fun X => lnS fun Y => lnS fun Z => ln0 (h X Y Z)) (List.forall_mem_cons.mpr ⟨ha, List.forall_mem_cons.mpr ⟨hb, List.forall_mem_cons.mpr ⟨hc, fun _ h => absurd h List.not_mem_nil⟩⟩⟩)
noncomputable def bindD (a b : Str) (d : V) (args : List V) : Option (List (Str × V)) := List.casesOn args none fun u l => List.casesOn l (some [(a, u), (b, d)]) fun v l => List.casesOn l (some [(a, u), (b, v)]) fun _ _ => none
theorem bindD_is {a b : Str} {d : V} {args : List V} {ab : List (Str × V)} (e : bindD a b d args = some ab) : ∃ u v, ab = [(a, u), (b, v)] ∧ ((args = [u] ∧ v = d) ∨ args = [u, v]) := by
 cases args with
 | nil => exact nn e
 | cons u l => cases l with
  | nil => exact ⟨u, d, (Option.some.inj e).symm, .inl ⟨rfl, rfl⟩⟩
  | cons v l => cases l with
   | nil => exact ⟨u, v, (Option.some.inj e).symm, .inr rfl⟩
   | cons => exact nn e
theorem bndD {W : Wd} {fd : FuncData} {xs : List (Str × Option Nat)} {a b : Str} {d : V} {D : Value} {T : Addr} {oT : Obj} {nT : Nat} (hd : fd.defaults = .ref T) (hT : W.K.lookup T = some oT) (hs : oT.data = .seq #[D] nT) (hD : ∀ P ρ, VR P ρ d D)
  (h1 : ∀ X, ∃ k, bindArgs fd ⟨[X], []⟩ = seqItems? fd.defaults >>= k ∧ k (some #[D]) = pure [(a, X), (b, D)]) (h2 : ∀ X Y, ∃ k, bindArgs fd ⟨[X, Y], []⟩ = seqItems? fd.defaults >>= k ∧ k (some #[D]) = pure [(a, X), (b, Y)])
  (ha : a ∈ xs.map (·.1)) (hb : b ∈ xs.map (·.1)) : Bnd W fd xs (bindD a b d) where
 binds := fun args ab e P ρ Vs s KI hv => by
  obtain ⟨u, v, rfl, ⟨rfl, rfl⟩ | rfl⟩ := bindD_is e
  ·obtain ⟨U, rfl, r1⟩ := hv.inv1
   obtain ⟨k, k1, k2⟩ := h1 U
   exact ⟨_, BindsTo.of_defaults hd (KI _ _ hT) hs k1 k2, .cons r1 (.cons (hD _ _) .nil)⟩
  ·obtain ⟨U, V', rfl, r1, r2⟩ := hv.inv2
   obtain ⟨k, k1, k2⟩ := h2 U V'
   exact ⟨_, BindsTo.of_defaults hd (KI _ _ hT) hs k1 k2, .cons r1 (.cons r2 .nil)⟩
 names := fun args ab e => by
  obtain ⟨u, v, rfl, _⟩ := bindD_is e
  exact List.forall_mem_cons.mpr ⟨ha, List.forall_mem_cons.mpr ⟨hb, fun _ h => absurd h List.not_mem_nil⟩⟩
section
variable {w : World} {p : Program} {loose : List Str} {mean : ExcName → Option Value} {mg mb : Str → Option Value}
theorem sub178 : SubOk (Wc w p loose mean mg mb).K 178 := ⟨by rfl, by rfl, by rfl, by rfl, by rfl⟩
theorem sgb178 {b : String} {name : Str} (hf : findIn (Wc w p loose mean mg mb).K (.ref 178) name = some (some (.builtin b))) (ht : typeIn (Wc w p loose mean mg mb).K (.builtin b) = some (.type "method_descriptor")) : SGm (Wc w p loose mean mg mb) name (.builtin b) (isInst 178 name) :=
 sg_bi (ga := "list.__getattribute__") (by rfl) (by decide +kernel) (by rfl) hf ht
end
end
end
section
section
section
variable {w : World} {p : Program} {loose : List Str} {mean : ExcName → Option Value} {mg mb : Str → Option Value}
theorem set178 : SetOk (Wc w p loose mean mg mb) 178 "_initial_size" := by
 refine' setOk_sub (cd := ?cd) ?h1 ?h2 ?h3 ?h4 ?h5
 case h2 => exact rfl
 case h1 => rfl
 case h3 => rfl
 case h4 => rfl
 case h5 => rfl
theorem get178 : GetOk (Wc w p loose mean mg mb) 178 "_initial_size" := getOk_sub (by rfl) (by rfl) (by rfl) (by rfl) (by rfl)
end
end
end
section
section
section
variable {W : Wd} {Φ : Fx} {ρ ρ' : List Cell} {loc : Loc} {H H' : List AO} {s s' : Shared}
noncomputable def andV (f : EF) (g : EF) : EF := fun loc H => (f loc H).bind fun p => (truthV p.2 p.1).bind fun b => if b then g loc p.2 else some p
noncomputable def orV (f : EF) (g : EF) : EF := fun loc H => (f loc H).bind fun p => (truthV p.2 p.1).bind fun b => if b then some p else g loc p.2
theorem se_and {x y : Expr} {pos : Pos} {f g : EF} (hx : SE W Φ x f) (hy : SE W Φ y g) : SE W Φ (.BoolOp .And [x, y] pos) (andV f g) := fun loc H v H' ρ s Q E hf S k => by
 unfold andV at hf
 refine obp2 hf fun a H1 e1 hf1 => ?_
 refine obp hf1 fun b e2 hf2 => ?_
 refine BoolOp_and (hx _ _ _ _ _ _ _ _ e1 S fun X s1 ρ1 t1 S1 v1 => wp_truth S1 e2 v1 fun s2 k2 => ?_)
 cases b with
 | true =>
  simp only [if_true] at hf2 ⊢
  exact BoolOp_one (hy _ _ _ _ _ _ _ _ hf2 (S1.kept k2) fun Y s3 ρ3 t3 S3 v3 => k _ _ _ ((t1.trans k2.stp).trans t3) S3 v3)
 | false =>
  simp only [Bool.false_eq_true, if_false] at hf2 ⊢
  cases hf2
  exact k _ _ _ (t1.trans k2.stp) (S1.kept k2) (k2.stp.mono v1)
theorem se_or {x y : Expr} {pos : Pos} {f g : EF} (hx : SE W Φ x f) (hy : SE W Φ y g) : SE W Φ (.BoolOp .Or [x, y] pos) (orV f g) := fun loc H v H' ρ s Q E hf S k => by
 unfold orV at hf
 refine obp2 hf fun a H1 e1 hf1 => ?_
 refine obp hf1 fun b e2 hf2 => ?_
 refine BoolOp_or (hx _ _ _ _ _ _ _ _ e1 S fun X s1 ρ1 t1 S1 v1 => wp_truth S1 e2 v1 fun s2 k2 => ?_)
 cases b with
 | true =>
  simp only [if_true] at hf2 ⊢
  cases hf2
  exact k _ _ _ (t1.trans k2.stp) (S1.kept k2) (k2.stp.mono v1)
 | false =>
  simp only [Bool.false_eq_true, if_false] at hf2 ⊢
  exact BoolOp_one (hy _ _ _ _ _ _ _ _ hf2 (S1.kept k2) fun Y s3 ρ3 t3 S3 v3 => k _ _ _ ((t1.trans k2.stp).trans t3) S3 v3)
noncomputable def isV (a b : V) : Option V := if b.isN then V.casesOn a (some (.bool true)) (fun _ => none) (fun _ => none) (fun _ => none) (fun _ => none) (fun _ => some (.bool false)) (fun _ => some (.bool false)) (fun _ _ => none) (fun _ => none) fun _ => none else none
theorem op_is : S2 W Φ (compareOp .Is) (pure2 isV) := fun loc H a b v H' X Y ρ s Q E hf S ha hb k => omp hf fun u e q => ifo e fun hn e => by
 replace k := k.of q
 cases hb.isNone hn
 have z : (X = .none ∧ u = .bool true) ∨ ∃ d, X = .ref d ∧ u = .bool false :=
  V.casesOn (motive_1 := fun a => isV a .none = some u → VR (Φ.P ρ s.heap) ρ a X → (X = .none ∧ u = .bool true) ∨ ∃ d, X = .ref d ∧ u = .bool false) a (fun e h => .inl ⟨h.inv, (Option.some.inj e).symm⟩) (fun _ => nn) (fun _ => nn) (fun _ => nn) (fun _ => nn)
   (fun _ e h => .inr (h.inv.imp fun _ z => ⟨z.choose_spec.choose_spec.1, (Option.some.inj e).symm⟩)) (fun _ e h => .inr ⟨_, h.inv.choose_spec.2, (Option.some.inj e).symm⟩) (fun _ _ => nn) (fun _ => nn) (fun _ => nn) e ha
 rcases z with ⟨rfl, rfl⟩ | ⟨d, rfl, rfl⟩
 all_goals exact wpAny_bind (wpAny_pure (wpAny_pure (k _ _ ρ .refl S (.bool _))))
end
end
end
section
section
section
variable {w : World} {p : Program} {loose : List Str} {mean : ExcName → Option Value} {mg mb : Str → Option Value}
end
end
end
section
section
noncomputable def SeqAt (h : Heap) (l : Addr) (items : Array Value) : Prop := ∃ o, h.get? l = some o ∧ ∃ n, o.data = .seq items n
section
variable {prog : Program} {w : World} {A : Around} {E : Value → Shared → Prop} {s : Shared}
theorem pyNext_seq_item {it l : Addr} {i : Nat} {items} {x : Value} {Q : Option Value → Shared → Prop} (hit : s.heap.IsListIter it l i)
  (hl : SeqAt s.heap l items) (hx : items[i]? = some x)
  (hQ : ∀ h', h'.IsListIter it l (i + 1) → Heap.SameBut it s.heap h' → Q (some x) { s with heap := h' }) :
  wpAny (model prog w) A (pyNext (.ref it)) Q E s := by
 obtain ⟨o, ho, hc, hd⟩ := id hit
 obtain ⟨ol, hol, nl, hdl⟩ := hl
 unfold pyNext
 refine wpAny_bind (wpAny_attempt (wpAny_callSpecial?_slot (name := Str.ofString "__next__") hit.typeIs slot_listiter_next
  (wpAny_call_entry slot_listiter_next hit.typeIs entry_listiter_next ?_ (args_listiter_next _))))
 show wpAny _ _ (field (.ref it) 0 >>= _) _ _ s
 refine wpAny_bind (wpAny_field ho hd (x := .ref l) rfl ?_)
 show wpAny _ _ (if (Value.ref l == Value.none) = true then _ else _) _ _ s
 rw [if_neg (show ¬ ((Value.ref l == Value.none) = true) from Bool.false_ne_true)]
 show wpAny _ _ (field (.ref it) 1 >>= _) _ _ s
 refine wpAny_bind (wpAny_field ho hd (x := .int i 0) rfl ?_)
 show wpAny _ _ (seqItems? (.ref l) >>= _) _ _ s
 refine wpAny_bind (wpAny_seqItems hol hdl ?_)
 simp only [Int.toNat_natCast, hx]
 refine wpAny_bind (wpAny_setField ho hd (by simp) (wpAny_pure ⟨x, rfl, wpAny_pure (hQ _ ?_ (Heap.SameBut.update ..))⟩))
 exact ⟨_, Heap.get?_update_self _ ho (Obj.isFreed_of_fields (Obj.data_mapFields hd _)), (Obj.cls_mapFields ..).trans hc, by
  rw [Obj.data_mapFields hd]; simp [rawInt]⟩
theorem pyNext_seq_end {it l : Addr} {i : Nat} {items} {Q : Option Value → Shared → Prop} (hh : A.handled = none)
  (hit : s.heap.IsListIter it l i) (hl : SeqAt s.heap l items) (hx : items[i]? = none)
  (hQ : ∀ h', Heap.ExtBut it s.heap h' → Q none { s with heap := h' }) : wpAny (model prog w) A (pyNext (.ref it)) Q E s := by
 obtain ⟨o, ho, hc, hd⟩ := id hit
 obtain ⟨ol, hol, nl, hdl⟩ := hl
 unfold pyNext
 refine wpAny_bind (wpAny_attempt (wpAny_callSpecial?_slot (name := Str.ofString "__next__") hit.typeIs slot_listiter_next
  (wpAny_call_entry slot_listiter_next hit.typeIs entry_listiter_next ?_ (args_listiter_next _))))
 show wpAny _ _ (field (.ref it) 0 >>= _) _ _ s
 refine wpAny_bind (wpAny_field ho hd (x := .ref l) rfl ?_)
 show wpAny _ _ (if (Value.ref l == Value.none) = true then _ else _) _ _ s
 rw [if_neg (show ¬ ((Value.ref l == Value.none) = true) from Bool.false_ne_true)]
 show wpAny _ _ (field (.ref it) 1 >>= _) _ _ s
 refine wpAny_bind (wpAny_field ho hd (x := .int i 0) rfl ?_)
 show wpAny _ _ (seqItems? (.ref l) >>= _) _ _ s
 refine wpAny_bind (wpAny_seqItems hol hdl ?_)
 simp only [Int.toNat_natCast, hx]
 refine wpAny_bind (wpAny_rule (wpAny_bind (wpAny_setField ho hd (by simp) ?_)))
 show wpAny _ _ (newExc (.type "StopIteration") [] >>= _) _ _ _
 refine wpAny_bind ?_
 simp only [newExc, newTuple]
 refine wpAny_bind (wpAny_newObj_type ?_ (by size_fits))
 refine wpAny_bind (m := firstArgMember _ _) (wpAny_of_eq (a := Value.none) (by first | rfl | (simp only [firstArgMember]; rfl)) ?_)
 refine wpAny_newObj_type ?_ (by size_fits)
 simp -iota only [raiseNew]
 refine wpAny_bind (wpAny_handled ?_)
 rw [show A.in1.handled = none from hh]
 refine wpAny_bind (wpAny_pure (wpAny_throw ?_))
 refine wpAny_bind (wpAny_isInstance (T := "StopIteration") (b := true) ⟨_, Heap.get?_push_size _ rfl, rfl⟩ isSubtype_stop ?_)
 exact wpAny_pure (hQ _ (((Heap.SameBut.update ..).extBut.push _).push _))
end
end
end
section
section
theorem SeqAt.at {h h' : Heap} {l : Addr} {its : Array Value} (x : SeqAt h l its) (k : ∀ o, h.get? l = some o → h'.get? l = some o) : SeqAt h' l its := let ⟨o, e, r⟩ := x; ⟨o, k o e, r⟩
theorem walksSeqTuples {prog : Program} {w : World} {A : Around} (hh : A.handled = none) (I ax : Addr) (hne : ax ≠ I) (items : Array Value) (Ts : Nat → Addr) (vals : Nat → Array Value)
  (hit : ∀ j, j < items.size → items[j]? = some (.ref (Ts j))) (hTI : ∀ j, j < items.size → Ts j ≠ I) :
  WalksU prog w A I (I :: ax :: (List.range items.size).map Ts) [I] items.size (fun j v => j < items.size ∧ v = vals j)
   (fun j h => h.IsListIter I ax j ∧ SeqAt h ax items ∧ ∀ k, k < items.size → h.IsTuple (Ts k) (vals k))
   (fun j T h => (j < items.size ∧ T = Ts j) ∧ h.IsListIter I ax (j + 1) ∧ SeqAt h ax items ∧ ∀ k, k < items.size → h.IsTuple (Ts k) (vals k)) where
 sub := fun b hb => by simp at hb; simp [hb]
 frame := fun _ _ _ st hk => ⟨st.1.at fun o e => hk I (by simp) o e, st.2.1.at fun o e => hk ax (by simp) o e,
  fun k hk' => (st.2.2 k hk').at fun o e => hk (Ts k) (List.mem_cons_of_mem _ (List.mem_cons_of_mem _ (List.mem_map.mpr ⟨k, List.mem_range.mpr hk', rfl⟩))) o e⟩
 item := fun i s Q E hi st hQ => by
  refine pyNext_seq_item st.1 st.2.1 (x := .ref (Ts i)) (hit i hi) fun h' hit' hs' => ?_
  have tup : ∀ k, k < items.size → h'.IsTuple (Ts k) (vals k) := fun k hk' => (st.2.2 k hk').extBut hs'.extBut (hTI k hk')
  exact hQ (Ts i) (vals i) h' s.toks ⟨hi, rfl⟩ (tup i hi) ⟨⟨hi, rfl⟩, hit', st.2.1.at fun o e => hs'.extBut _ _ hne e, tup⟩ fun b o hb e => hs'.extBut b o (fun h => hb (by simp [h])) e
 go := fun _ _ _ _ _ s Q _ hm hQ => wpAny_letOwnedTupleGo_listiter hm.2.1 (hQ s.heap hm.2 fun _ _ _ e => e)
 apart := fun j T _ hm hmem => by
  rcases List.mem_cons.mp hmem with e | e
  ·exact hTI j hm.1.1 (hm.1.2 ▸ e)
  ·cases e
 done := fun s Q E st hQ => pyNext_seq_end hh st.1 st.2.1 (by simp) fun h' he' => hQ h' s.toks fun b o hb e => he' b o (fun h => hb (by simp [h])) e
 self := fun _ _ _ _ st hQ => wpAny_pyIter_listiter st.1 hQ
end
end
section
section
theorem walksShift {prog : Program} {w : World} {A : Around} {I : Addr} {fp wr : List Addr} {G : Array GenState → Array GenState → Prop} {n : Nat} {P : Nat → Value → Prop} {St : Nat → Shared → Prop} (W : WalksS prog w A I fp wr G n P St) :
  WalksS prog w A I fp wr G (n + 1) (fun i v => ∃ j, i = j + 1 ∧ P j v) (fun i s => ∃ j, i = j + 1 ∧ St j s) where
 sub := W.sub
 grefl := W.grefl
 gtrans := W.gtrans
 frame := fun i s h' tk ⟨j, e, st⟩ ht hk => ⟨j, e, W.frame j s h' tk st ht hk⟩
 item := fun i s Q E hi ⟨j, e, st⟩ hQ => W.item j s Q E (by omega) st fun v s' p st' m => hQ v s' ⟨j, e, p⟩ ⟨j + 1, by omega, st'⟩ m
 done := fun s Q E ⟨j, e, st⟩ hQ => W.done s Q E ((show j = n by omega) ▸ st) hQ
 self := fun i s Q E ⟨j, e, st⟩ hQ => W.self j s Q E st hQ
noncomputable def valFrom (k : Int) (val : Nat → Int) : Nat → Int | 0 => k | j + 1 => val j
theorem preSum_from (k : Int) (val : Nat → Int) : ∀ n, preSum (valFrom k val) (n + 1) = k + preSum val n
 | 0 => by simp [preSum, valFrom]
 | n + 1 => by
  rw [preSum, preSum_from k val n]
  show k + preSum val n + val n = k + (preSum val n + val n)
  omega
theorem args_sum2 (a b : Value) : argsOk "sum" ⟨[a, b], []⟩ := by unfold argsOk; kernel_rfl
section
variable {prog : Program} {w : World} {A : Around} {E : Value → Shared → Prop} {s : Shared}
theorem call_sum2 {x : Value} {k : Int} {t : Tok} {Q : Value → Shared → Prop} (hk : -(2 ^ 60) < k ∧ k < 2 ^ 60)
  (h : wpAny (model prog w) A.in1 (pyIter x) (fun it s₂ => ∃ I fp wr G n P St val, it = .ref I ∧ WalksS prog w A.in1 I fp wr G n P St ∧ St 0 s₂ ∧ (∀ b ∈ fp, b < s₂.heap.objs.size) ∧
   (∀ i v, P i v → ∃ t, v = .int (val i) t) ∧
   ∀ s' t', Moved wr G s₂ s' → Q (.int (k + preSum val n) t') s') E s) :
  wpAny (model prog w) A (call (.builtin "sum") [x, .int k t]) Q E s := by
 refine call_function_tree PySem.F.kind_sum PySem.F.plain_sum PySem.F.entry_sum (args_sum2 _ _) ?_
 unfold Builtin.«sum»
 simp -iota only [List.length_cons, List.length_nil]
 rw [if_neg (by decide)]
 refine wpAny_bind (wpAny_of_eq (show Builtin.Builtins.bindParams "sum" ["start"] 0 ⟨[.int k t], []⟩ = pure [some (.int k t)] from rfl) ?_)
 refine wpAny_bind (wpAny_mono h (fun it s₂ h₂ => ?_) fun _ _ e => e)
 obtain ⟨I, fp, wr, G, n, P, St, val, rfl, W, hst, hfp, hval, hQ⟩ := h₂
 have hl : (decide (-(2 ^ 63 : Int) ≤ k) && decide (k < 2 ^ 63)) = true := by
  simp only [Bool.and_eq_true, decide_eq_true_eq]
  omega
 dsimp only
 rw [if_pos ?hpos]
 case hpos => exact hl
 refine wpAny_bind (wpAny_rule (wpAny_bind (wpAny_mkInt ?_)))
 first | refine wpAny_pure ?_ | skip
 simp -iota only [List.forIn_cons, List.forIn_nil]
 refine wpAny_bind (wpAny_pure ?_)
 dsimp only
 refine wpAny_bind (wpAny_bind (wpAny_bind (wpAny_isInstance (T := "int") (b := false) (typeIs_int _ _ _) PySem.sub_int_str ?_)))
 simp -iota only [Bool.false_eq_true, if_false]
 refine wpAny_pure (wpAny_bind (wpAny_bind (wpAny_isInstance (T := "int") (b := false) (typeIs_int _ _ _) PySem.sub_int_bytes ?_)))
 simp -iota only [Bool.false_eq_true, if_false]
 refine wpAny_pure (wpAny_bind (wpAny_bind (wpAny_isInstance (T := "int") (b := false) (typeIs_int _ _ _) PySem.sub_int_bytearray ?_)))
 simp -iota only [Bool.false_eq_true, if_false]
 refine wpAny_pure (wpAny_pure ?_)
 refine wpAny_bind (wpAny_newObj_type ?_)
 have hSf : s₂.heap.objs.size ∉ fp := fun hm => Nat.lt_irrefl _ (hfp _ hm)
 refine wpAny_pure ⟨plainId_quiet PySem.F.plain_sum_loop _, codeAny_sum_loopAnyS (walksShift W) (valFrom k val) (fun i v ⟨j, e, p⟩ => by subst e; exact hval j v p) s₂.heap.objs.size hSf n 1 _ s₂.toks 0 0 (.inl rfl) (by omega) (by omega)
  ⟨0, rfl, W.frame 0 s₂ _ _ hst (by first | exact Nat.le_refl _ | exact Nat.le_succ _ | omega) fun b _ o e => Heap.get?_push_of_some _ e⟩ (by rw [preSum_from]; simp [preSum]; exact Heap.get?_push_size _ rfl) fun s' t' hm => ?_⟩
 rw [preSum_from]
 exact hQ s' t' (hm.drop_new (by first | exact Nat.le_refl _ | exact Nat.le_succ _ | omega))
end
end
end
section
section
noncomputable def enumV (xs : List V) : List V := xs.mapIdx fun i x => .tup [.int i, x]
noncomputable def tgtT (t : Expr) : Prop := ∃ elts x1 pos, t = .Tuple elts x1 pos
section
variable {W : Wd} {Φ : Fx} {ρ ρ0 : List Cell} {loc : Loc} {H : List AO} {s : Shared} {Q : Value → Shared → Prop} {E : Value → Shared → Prop} {A : Around} {P0 : Addr → Obj → Prop}
noncomputable def EK (e it l : Addr) (vs : List Value) (n : Nat) (P0 : Addr → Obj → Prop) (xs0 xs : List V) (h : Heap) : Prop := ∃ (i : Nat) (old : Value), i ≤ xs0.length ∧ xs = (enumV xs0).drop i ∧ IsEnum h e it i old ∧ h.IsListIter it l i ∧ h.get? l = some (lstO vs n) ∧ P0 l (lstO vs n)
noncomputable def EKM (e it l : Addr) (vs : List Value) (n : Nat) (P0 : Addr → Obj → Prop) (xs0 : List V) (X : Value) (xs : List V) (h : Heap) : Prop := ∃ (i : Nat) (item : Value) (a : Addr), i ≤ xs0.length ∧ xs = (enumV xs0).drop i ∧ X = .ref a ∧ IsEnumOut h e it i item a ∧ h.IsListIter it l i ∧ h.get? l = some (lstO vs n) ∧ P0 l (lstO vs n)
theorem not_flat_enum {o : Obj} (h : o.cls = .type "enumerate") : ¬ Flat o := fun fl => by
 rcases fl.2 with e | e | e <;> (rw [h] at e; injection e with e; exact absurd e (by decide))
theorem not_flat_iter {o : Obj} (h : o.cls = .type "list_iterator") : ¬ Flat o := fun fl => by
 rcases fl.2 with e | e | e <;> (rw [h] at e; injection e with e; exact absurd e (by decide))
theorem iter_enum {e it l : Addr} {vs : List Value} {n : Nat} {xs0 : List V} (hei : e ≠ it) (hle : l ≠ e) (hli : l ≠ it) (hs : VRs P0 ρ0 xs0 vs) : Iter W e [e, it] P0 ρ0 (EK e it l vs n P0 xs0) (EKM e it l vs n P0 xs0) tgtT where
 nf := fun xs h ⟨i, old, _, _, h1, h2, _, _⟩ b hb => by
  simp at hb
  rcases hb with rfl | rfl
  ·exact ⟨_, h1, not_flat_enum rfl⟩
  ·obtain ⟨o, ho, hc, _⟩ := h2
   exact ⟨_, ho, not_flat_iter hc⟩
 nfM := fun X xs h ⟨i, item, a, _, _, _, h1, h2, _, _⟩ b hb => by
  simp at hb
  rcases hb with rfl | rfl
  ·exact ⟨_, h1, not_flat_enum rfl⟩
  ·obtain ⟨o, ho, hc, _⟩ := h2
   exact ⟨_, ho, not_flat_iter hc⟩
 keep := fun xs h h' ⟨i, old, hi, hx, h1, h2, h3, h4⟩ hk => by
  obtain ⟨o, ho, r⟩ := h2
  exact ⟨i, old, hi, hx, hk _ _ h1 (.inl (by simp)), ⟨o, hk _ _ ho (.inl (by simp)), r⟩, hk _ _ h3 (.inr h4), h4⟩
 self := fun A xs s Q E ⟨i, old, hi, hx, h1, h2, h3, h4⟩ h => by
  have hT : s.TypeIs (.ref e) "enumerate" := ⟨_, h1, rfl⟩
  exact wpAny_pyIter_enum h1 h
 step := fun A hA x xs s Q E ⟨i, old, hi, hx, h1, h2, h3, h4⟩ h => by
  have hlen : (enumV xs0).length = xs0.length := by simp [enumV]
  have hlt : i < (enumV xs0).length := by
   rcases Nat.lt_or_ge i (enumV xs0).length with h | h
   ·exact h
   ·rw [List.drop_eq_nil_of_le h] at hx; cases hx
  rw [List.drop_eq_getElem_cons hlt] at hx
  obtain ⟨e1, e2⟩ := List.cons.inj hx
  have hx0 : xs0[i]? = some (xs0[i]'(hlen ▸ hlt)) := List.getElem?_eq_getElem _
  have ex : x = .tup [.int i, xs0[i]'(hlen ▸ hlt)] := by rw [e1]; simp [enumV]
  obtain ⟨v, ev, rv⟩ := hs.get hx0
  refine wpAny_pyNext_enum_item h1 h2 ⟨_, h3, rfl, n, rfl⟩ (items := vs.toArray) (x := v) (by simpa using ev) hei fun h' q1 q2 q3 q4 q5 => ?_
  have hl' : h'.get? l = some (lstO vs n) := q5 _ _ hle hli h3
  refine h _ h' _ ⟨i + 1, v, _, by omega, e2, rfl, q1, q2, hl', h4⟩ (fun b o hb e => q5 b o (fun q => hb (by simp [q])) (fun q => hb (by simp [q])) e) ?_
  rw [ex]
  exact .tup (vs := [.int i _, v]) (.inr ⟨Nat.le_refl _, q3⟩) (.cons (.int _ _) (.cons (rv.mono (fun _ _ z => .inl z) fun _ _ z => z) .nil))
 done := fun A hA s Q E ⟨i, old, hi, hx, h1, h2, h3, h4⟩ h => by
  have hlen : (enumV xs0).length = xs0.length := by simp [enumV]
  have hlt : xs0.length ≤ i := by
   rcases Nat.lt_or_ge i xs0.length with h | h
   ·rw [List.drop_eq_getElem_cons (hlen ▸ h)] at hx; cases hx
   ·exact h
  refine wpAny_pyNext_enum_end hA h1 h2 ⟨_, h3, rfl, n, rfl⟩ (items := vs.toArray) (by have := hs.length; simp; omega) fun h' he => ?_
  exact h h' s.toks fun b o hb e => he b o (fun q => hb (by simp [q])) e
 go := fun A target X xs s Q E ⟨elts, x1, pos, ht⟩ ⟨i, item, a, hi, hx, hX, h1, h2, h3, h4⟩ h => by
  subst ht hX
  refine wpAny_letOwnedTupleGo_enum h1 fun h' q1 q2 => ?_
  have k : ∀ b o, b ≠ e → s.heap.get? b = some o → h'.get? b = some o := fun b o hb e => q2.extBut b o hb e
  obtain ⟨o, ho, r⟩ := h2
  exact h h' ⟨i, item, hi, hx, q1, ⟨o, k _ _ (Ne.symm hei) ho, r⟩, k _ _ hle h3, h4⟩ fun b o hb e => k b o (fun q => hb (by simp [q])) e
theorem src_enum {a : Addr} {vs : List Value} {n : Nat} {xs : List V} (hp : ∀ a o, P0 a o → s.heap.get? a = some o) (ha : P0 a (lstO vs n)) (hs : VRs P0 ρ xs vs) (k : SrcK W P0 ρ s tgtT (enumV xs) Q) :
  wpAny W.M A (call (.type "enumerate") [.ref a]) (fun X s1 => wpAny W.M A (pyIter X) Q E s1) E s := by
 have lt := Heap.lt_size (hp _ _ ha)
 refine call_enumerate_list (isList_of (hp _ _ ha)) fun h' q1 q2 q3 q4 => ?_
 refine wpAny_pyIter_enum q1 ?_
 refine k (s.heap.objs.size + 1) [s.heap.objs.size + 1, s.heap.objs.size] _ _ { s with heap := h' } ⟨q4, by show _ ≤ h'.objs.size; omega, rfl, id⟩ (fun b hb => by simp at hb; omega) (fun b hb => by simp at hb; show b < h'.objs.size; omega)
  (iter_enum (e := s.heap.objs.size + 1) (it := s.heap.objs.size) (l := a) (n := n) (Nat.succ_ne_self _) (Nat.ne_of_lt (Nat.lt_succ_of_lt lt)) (Nat.ne_of_lt lt) hs) ⟨0, .none, Nat.zero_le _, rfl, q1, q2, q4 _ _ (hp _ _ ha), ha⟩
noncomputable def enumQ (g : LF) : QF := fun loc H => (g loc H).bind fun p => match p.1 with | [.lst xs] => some (enumV xs, p.2) | _ => none
theorem sq_enum (O : Φ.Ok W) {func : Expr} {es : List Expr} {pos : Pos} {g : LF} (hf : SN W Φ func (.type "enumerate")) (ha : SL W Φ pos es g) (hp : Plain Φ.env pos es)
  (he : eval (.Call func es [] pos) Φ.env = (do callWith pos (← eval func Φ.env) [] (backTo pos (starEach es Φ.env)) (backToKw pos (keywordEach [] Φ.env)))) : SQ W Φ (.Call func es [] pos) tgtT (enumQ g) := fun loc H xs H' ρ s Q E hff S k => by
 unfold enumQ at hff
 refine obp2 hff fun vs H1 e1 hff => ?_
 dsimp only at hff
 split at hff
 ·cases hff
  refine Call_ (hf _ _ _ _ _ _ S (wp_args O (.ty _) ha hp e1 S fun Xs s1 ρ1 t1 S1 v1 => ?_)) he
  obtain _ | ⟨r1, r⟩ := v1; cases r; cases r1 with
  | lst pa pv => exact src_enum (fun _ _ z => z.1) pa pv (k _ _ t1 S1)
 ·cases hff
theorem boot_enum : bootBuiltins "enumerate" = some (.type "enumerate") := by kernel_rfl
end
end
end
section
section
section
variable {prog : Program} {w : World} {A : Around} {E : Value → Shared → Prop} {s : Shared} {K : Frag} {x C : Addr} {ox : Obj} {od : Option Obj}
theorem pyIter_sub {Q : Value → Shared → Prop} (B : SubOk K C) (X : K.In s.heap) (I : InstAt s.heap x ox C od)
  (hQ : Q (.ref s.heap.objs.size) { s with heap := s.heap.push { cls := .type "list_iterator", data := .fields #[.ref x, .int 0 0] } }) : wpAny (model prog w) A (pyIter (.ref x)) Q E s := by
 have L : Looks (model prog w) s.heap (specialOf (.ref x) "__iter__") (some (.builtin "list.__iter__")) := by
  unfold specialOf
  exact I.type.andThen (looks_findIn X B.iter)
 have hc : wpAny (model prog w) A (call (.builtin "list.__iter__") [.ref x]) (fun it s' => ∃ T' r, s'.TypeIs it T' ∧ typeLookup (.type T') "__next__" = pure (some r) ∧ Q it s') E s := by
  refine call_sub (owner := "list") (n := "__iter__") (.inl (by decide +kernel)) (by decide +kernel) slot_list_iter.plain entry_list_iter (inst_looks X I B.isList) (args_list_iter _) ?_
  show wpAny _ _ (do ret (← newFields "list_iterator" [.ref x, rawInt 0])) _ _ s
  exact wpAny_bind (wpAny_newObj_type (wpAny_pure ⟨_, rfl, "list_iterator", _, ⟨_, Heap.get?_push_size _ rfl, rfl⟩, slot_listiter_next.lookup, hQ⟩))
 unfold pyIter
 refine wpAny_bind (L.here ?_)
 dsimp only
 refine wpAny_bind ?_
 simp only [callSpecialIfBoundUnlessNone?, bindSpecialIfBound?]
 refine wpAny_holding (wpAny_bind (wpAny_bind (L.here ?_)))
 simp only [slot_list_iter.bind]
 refine wpAny_bind (wpAny_askSetting (wpAny_ite ?_))
 have fin : ∀ {Q' : Option Value → Shared → Prop}, (∀ it s', (∃ T' r, s'.TypeIs it T' ∧ typeLookup (.type T') "__next__" = pure (some r) ∧ Q it s') → Q' (some it) s') → ∀ (r : Sem (Option Value)), wpAny (model prog w) A (if (Value.builtin "list.__iter__" == Value.none) = true then r else (call (.builtin "list.__iter__") [.ref x] >>= fun v => pure (some v))) Q' E s := fun hq r => by
  simp only [builtin_beq_none, Bool.false_eq_true, if_false]
  exact wpAny_bind (wpAny_mono hc (fun it s' h' => wpAny_pure (hq it s' h')) fun _ _ h' => h')
 split
 ·exact wpAny_bind (wpAny_pure (wpAny_pure (fin (fun it s' h' => by
   obtain ⟨T', r, hT', hl, hq⟩ := h'
   exact wpAny_bind (wpAny_specialOf hT' hl (wpAny_pure hq))) _)))
 ·exact wpAny_tryCatch (wpAny_bind (wpAny_pure (wpAny_pure (fin (fun it s' h' => by
   obtain ⟨T', r, hT', hl, hq⟩ := h'
   exact wpAny_bind (wpAny_specialOf hT' hl (wpAny_pure hq))) _))))
end
section
variable {W : Wd} {Φ : Fx} {ρ ρ' : List Cell} {loc : Loc} {H H' : List AO} {s s1 s' : Shared} {P : Addr → Obj → Prop}
theorem notTB (S : SI W Φ ρ loc H s) {b : Addr} (hb : b ∈ Φ.base.X) : b ∉ TB := fun h => by
 have := S.ndT
 unfold Fx.T at this
 rw [List.nodup_append] at this
 exact this.2.2 _ h _ hb rfl
theorem SI.tbl (S : SI W Φ ρ loc H s) (hk : ∀ b o, b ∉ TB → s.heap.get? b = some o → s'.heap.get? b = some o) (tb : TInv s'.heap) (os : s'.os = s.os) (hg : AllBare s'.gens) : Stp Φ ρ ρ s s' ∧ SI W Φ ρ loc H s' := by
 have p3 := S.p3
 have p4 := S.p4
 have p5 := S.p5
 have pm : ∀ a o, Φ.P ρ s.heap a o → Φ.P ρ s'.heap a o := fun a o z => ⟨hk a o (fun q => z.2 (mem_M_tb (mem_T_tb q))) z.1, z.2⟩
 have gw : ∀ b o, Φ.g.get? b = some o → b ∉ TB := fun b o e q => by have := S.gn b (mem_M_tb (mem_T_tb q)); rw [e] at this; cases this
 obtain ⟨m, F, l⟩ := S.m
 obtain ⟨oL, es, ep, eL, rL⟩ := F.ns
 have cellk : ∀ c ∈ Φ.cells, ∀ v, s.heap.IsCell c v → s'.heap.IsCell c v := fun c hc v ⟨o, e, d⟩ => ⟨o, hk c o (fun q => (p4 c hc).2 (mem_T_tb q)) e, d⟩
 refine ⟨⟨fun _ _ h => h, fun a o e n => ⟨hk a o (fun q => n (mem_M_tb (mem_T_tb q))) e, n⟩, os⟩, ⟨m, ⟨⟨oL, es, ep, hk _ _ (fun q => p3 (mem_T_tb q)) eL, rL⟩, fun b o e => hk b o (gw b o e) (F.keep b o e), F.above⟩, ?_⟩, fun c hc => ?_, ⟨S.hp.1, fun i c o h1 h2 => ?_⟩, S.nd, S.gn, fun a ha => ?_, tb, hg, S.up.keep fun b o hb => hk b o (notTB S hb)⟩
 ·exact l.mono cellk pm fun _ _ h => h
 ·obtain ⟨v, h⟩ := S.cl c hc
  exact ⟨v, cellk c hc v h⟩
 ·exact (S.hp.2 i c o h1 h2).mono (fun a ha o e => hk a o (fun q => p5 a (mem_mutA h1 ha) (mem_T_tb q)) e) pm fun _ _ h => h
 ·by_cases q : a ∈ TB
  ·have : ∃ z ∈ TBs, z.2 = a := by
    unfold TB at q; unfold TBs
    simp at q
    rcases q with rfl | rfl <;> simp
   obtain ⟨z, hz, rfl⟩ := this
   obtain ⟨ps, ⟨_, h2⟩, _⟩ := tb z hz
   exact Heap.lt_size h2
  ·obtain ⟨o, eo⟩ := S.has ha
   exact Heap.lt_size (hk a o q eo)
end
end
end
section
section
noncomputable def pairV (v : V) : Option (Str × Str) := V.casesOn v none (fun _ => none) (fun _ => none) (fun _ => none) (fun xs => (two? xs).bind fun p => p.1.str?.bind fun a => p.2.str?.map fun b => (a, b)) (fun _ => none) (fun _ => none) (fun _ _ => none) (fun _ => none) fun _ => none
noncomputable def pairsV (xs : List V) : Option (List (Str × Str)) := allM pairV xs
noncomputable def PairR (P : Addr → Obj → Prop) (p : Str × Str) (X : Value) : Prop := ∃ a t u, X = .ref a ∧ P a (tupO [.str p.1 t, .str p.2 u])
theorem VR.pair {P : Addr → Obj → Prop} {ρ : List Cell} {v X} (h : VR P ρ v X) {p : Str × Str} (e : pairV v = some p) : PairR P p X :=
 VR.casesOn (motive_1 := fun v X _ => pairV v = some p → PairR P p X) h nn (fun _ => nn) (fun _ _ => nn) (fun _ _ => nn) (fun _ => nn) (fun _ _ => nn)
  (fun ha hs e => obp e fun q e1 e => obp e fun a e2 e => omp e fun b e3 q => (hs.two e1).elim fun X z => z.elim fun Y z => (z.2.1.isStr e2).elim fun t e4 => (z.2.2.isStr e3).elim fun u e5 => ⟨_, t, u, rfl, by rw [z.1, e4, e5] at ha; exact q ▸ ha⟩)
  (fun _ _ => nn) (fun _ => nn) (fun _ => nn) e
noncomputable def PairsR (P : Addr → Obj → Prop) (ps : List (Str × Str)) : List Value → Prop := List.rec (motive := fun _ => List Value → Prop) (fun X => X = []) (fun p _ ih X => ∃ v Y, X = v :: Y ∧ PairR P p v ∧ ih Y) ps
theorem pairs_rel {P : Addr → Obj → Prop} {ρ : List Cell} {xs vs} (r : VRs P ρ xs vs) : ∀ {ps}, pairsV xs = some ps → PairsR P ps vs :=
 r.ind (m := fun xs vs => ∀ {ps}, pairsV xs = some ps → PairsR P ps vs) (fun {_} e => Option.some.inj e ▸ rfl) fun {_ _ _ _} a _ ih {_} e => obp e fun d e1 e => omp e fun ds e2 q => q ▸ ⟨_, _, rfl, a.pair e1, ih e2⟩
theorem PairsR.at {P : Addr → Obj → Prop} {ps : List (Str × Str)} : ∀ {vs}, PairsR P ps vs → ps.length = vs.length ∧ ∀ j, j < vs.length → ∃ p v, ps[j]? = some p ∧ vs[j]? = some v ∧ PairR P p v := by
 induction ps with
 | nil => exact fun {vs} h => (show vs = [] from h) ▸ ⟨rfl, fun j h => absurd h (Nat.not_lt_zero j)⟩
 | cons p ps ih => exact fun h => h.elim fun v h => h.elim fun Y h => h.1 ▸ have z := ih h.2.2; ⟨congrArg (· + 1) z.1, fun j => Nat.casesOn j (fun _ => ⟨p, v, rfl, rfl, h.2.1⟩) fun j hj => z.2 j (Nat.lt_of_succ_lt_succ hj)⟩
theorem pairs_of {P : Addr → Obj → Prop} {ρ : List Cell} {xs vs} (r : VRs P ρ xs vs) {ps} (e : pairsV xs = some ps) : ps.length = vs.length ∧
  ∃ (Ts : Nat → Addr) (vals : Nat → Array Value), ∀ j, j < vs.length → ∃ p t u, ps[j]? = some p ∧ vs[j]? = some (.ref (Ts j)) ∧ vals j = #[.str p.1 t, .str p.2 u] ∧ P (Ts j) (tupO [.str p.1 t, .str p.2 u]) := by
 have h := (pairs_rel r e).at
 have k : ∀ j, ∃ q : Addr × Array Value, j < vs.length → ∃ p t u, ps[j]? = some p ∧ vs[j]? = some (.ref q.1) ∧ q.2 = #[.str p.1 t, .str p.2 u] ∧ P q.1 (tupO [.str p.1 t, .str p.2 u]) := fun j =>
  (Nat.lt_or_ge j vs.length).elim (fun hj => (h.2 j hj).elim fun p z => z.elim fun v z => z.2.2.elim fun a y => y.elim fun t y => y.elim fun u y => ⟨(a, #[.str p.1 t, .str p.2 u]), fun _ => ⟨p, t, u, z.1, y.1 ▸ z.2.1, rfl, y.2⟩⟩) fun hj => ⟨(0, #[]), fun q => absurd q (Nat.not_lt.mpr hj)⟩
 exact ⟨h.1, fun j => (k j).choose.1, fun j => (k j).choose.2, fun j hj => (k j).choose_spec hj⟩
theorem TInv.but {h h' : Heap} {wr : List Addr} (x : TInv h) (hk : ∀ b o, b ∉ wr → h.get? b = some o → h'.get? b = some o) (hw : ∀ q ∈ TBs, q.1 ∉ wr ∧ q.2 ∉ wr) : TInv h' := x.two fun q hq a ha o => hk a o (ha.elim (fun e => e ▸ (hw q hq).1) fun e => e ▸ (hw q hq).2)
section
variable {W : Wd} {Φ : Fx} {ρ ρ' : List Cell} {loc : Loc} {H H' : List AO} {s s1 s' : Shared} {P : Addr → Obj → Prop}
theorem TInv.grow {h h' : Heap} {c P : Addr} (x : TInv h) (hcp : (c, P) ∈ TBs) (hx : Heap.ExtBut P h h') {ps : Array Value} (h1 : h'.TableAt c P ps) (h2 : h'.IsCode c P ps) : TInv h' := fun q hq => by
 by_cases e : q = (c, P)
 ·subst e; exact ⟨ps, h1, h2⟩
 ·obtain ⟨qs, ⟨⟨o, vs, k1, k2, k3, k4⟩, k5⟩, k6⟩ := x q hq
  have n1 : q.1 ≠ P ∧ q.2 ≠ P := by
   unfold TBs at hq hcp
   simp only [List.mem_cons, List.not_mem_nil, or_false] at hq hcp
   rcases hq with rfl | rfl <;> rcases hcp with e' | e' <;> cases e' <;> first | exact absurd rfl e | exact ⟨by decide, by decide⟩
  exact ⟨qs, ⟨⟨o, vs, hx _ _ n1.1 k1, k2, k3, k4⟩, hx _ _ n1.2 k5⟩, k6.extBut hx n1.1 n1.2⟩
theorem gen_ready (O : Φ.Ok W) {C : Addr} (B : SubOk W.K C) {c P : Addr} (hcp : (c, P) ∈ TBs) (hcode : Φ.env.code = .ref c) (hdep : Φ.A.depth < recursionLimit) (S : SI W Φ ρ loc H s) {a : V} {i k : Nat} {xs : List V} {fs : List (Str × V)} {x : Str} {kx : Option Addr} {ps : List (Str × Str)}
  (hn : Φ.names[k]? = some (x, kx)) (hxd : (x == ("__debug__" : Str)) = false) (hl : loc[k]? = some (some a)) (e1 : seqOf? C H a = some (i, xs, fs)) (e2 : pairsV xs = some ps)
  {elt : Expr} {xa xb : Str} {pa pb pt px : Pos} {kt : Nat} {scope : Scope} {cl : List (Str × Addr)} {pos : Pos} {F : Nat → Value → Prop} {Q : Value → Shared → Prop} {E : Value → Shared → Prop}
  (hco : scope.isCoroutine = false) (hclos : closureFor scope Φ.env = pure cl) (hcell : ∀ y ∈ scope.names, y.2 ≠ .cell) (h0 : scope.names.lookup (".0" : Str) = some NameKind.local)
  (hxa : scope.names.lookup xa = some .local) (hxb : scope.names.lookup xb = some .local) (hab : xa ≠ xb) (hkind : scope.kind = .function)
  (hq : ∀ (A' : Around) E' code C0 j p t u (s₂ : Shared) m₂, A'.handled = none → ps[j]? = some p → s₂.heap.Ns C0 m₂ → m₂ xa = some (.str p.1 t) → m₂ xb = some (.str p.2 u) → (∀ b o, Φ.g.get? b = some o → s₂.heap.get? b = some o) →
   wpAny W.M A' (eval elt (genEnv scope cl C0 code builtinsNs Φ.env)) (fun y s₃ => F j y ∧ Keeps s₂ s₃) E' s₂)
  (k : ∀ ρ1 n a' s5 C0 I g, n = ps.length → SI W Φ ρ1 loc H s5 → Stp Φ ρ ρ1 s s5 → (∃ X, VR (Φ.P ρ1 s5.heap) ρ1 a X) → (∀ b ∈ a' :: C0 :: List.range C0, b < s5.heap.objs.size) →
   WalksS W.prog W.w Φ.A.in4 a' (a' :: C0 :: List.range C0) [C0, I] (GenOnlyQ g) (passing (fun _ => true) n 0).length (fun j y => ∃ i, (passing (fun _ => true) n 0)[j]? = some i ∧ F i y) (GenAt W.prog W.w Φ.A.in4 a' g C0 (List.range C0) [I] (fun _ => true) n F) →
   GenAt W.prog W.w Φ.A.in4 a' g C0 (List.range C0) [I] (fun _ => true) n F 0 s5 →
   (∀ s' : Shared, (∀ b o, b ∉ [C0, I] → s5.heap.get? b = some o → s'.heap.get? b = some o) → GenOnlyQ g s5.gens s'.gens → s'.os = s5.os → Stp Φ ρ ρ1 s s' ∧ SI W Φ ρ1 loc H s') → Q (.ref a') s5)
  (hs : ∀ v, genFold (.Name x px) Φ.env v = pure v) :
  wpAny W.M Φ.A (eval (.GeneratorExp elt [⟨.Tuple [.Name xa pa, .Name xb pb] kt pt, .Name x px, [], 0⟩] scope pos) Φ.env) Q E s := by
 refine wpAny_GeneratorExp_walksQT O.hh hco hclos hcell h0 hxa hxb hab hkind hdep ?_ hs
 refine se_name O _ hn hxd loc H a H ρ s _ _ (by simp [hl]) S fun X s1 ρ1 t1 S1 v1 => ?_
 obtain ⟨xad, d, vs, kk, es, m', rfl, rfl, hx, I, hvs⟩ := S1.seq e1 v1
 refine pyIter_sub B (S1.KI O) I.at ?_
 obtain ⟨m1, F1, l1⟩ := S1.m
 obtain ⟨psT, tab, cod⟩ := S1.tb (c, P) hcp
 have pT : P ∈ TB := by
  unfold TBs at hcp; unfold TB
  simp at hcp
  rcases hcp with ⟨_, rfl⟩ | ⟨_, rfl⟩ <;> simp
 have hPM : P ∈ Φ.M ρ1 := mem_M_tb (mem_T_tb pT)
 have hPlt : P < s1.heap.objs.size := S1.lt _ hPM
 have q5 := S1.p5
 generalize hs2 : ({ s1 with heap := s1.heap.push { cls := .type "list_iterator", data := .fields #[.ref xad, .int 0 0] } } : Shared) = s2
 have k2 : Kp s1 s2 := hs2 ▸ Kp.pushO s1 _
 have z2 : s2.heap.objs.size = s1.heap.objs.size + 1 := by rw [← hs2]; exact Heap.size_push _ _
 have it2 : s2.heap.IsListIter s1.heap.objs.size xad 0 := by rw [← hs2]; exact ⟨_, Heap.get?_push_size _ rfl, rfl, rfl⟩
 have g2 : s2.gens = s1.gens := by rw [← hs2]
 have o2 : s2.os = s1.os := k2.os
 have keep1 : ∀ b o, Φ.g.get? b = some o → s1.heap.get? b = some o := F1.keep
 have gP : ∀ b o, Φ.g.get? b = some o → b ≠ P := fun b o e q => by have := S1.gn _ hPM; rw [← q, e] at this; cases this
 have nl2 : s2.heap.NoLimit := O.T.nolimit.keeps fun b o e => k2.k _ _ (keep1 b o e)
 have rest : ∀ (h3 : Heap) (tk3 : Tok) (code : Value), (∀ b o, b ≠ P → s2.heap.get? b = some o → h3.get? b = some o) → s2.heap.objs.size ≤ h3.objs.size → TInv h3 →
   wpAny W.M Φ.A (builtinsFor Φ.env.globals Φ.env.builtins) (fun bi s₄ =>
    ∃ I fp wr n₀ Pt St₀ Mid pz F, (Value.ref s1.heap.objs.size) = .ref I ∧ (∀ A' : Around, A'.handled = none → WalksU W.prog W.w A' I fp wr n₀ Pt St₀ Mid) ∧ (∀ i vals, Pt i vals → ∃ va vb, vals = #[va, vb]) ∧ St₀ 0 s₄.heap ∧ (∀ b ∈ fp, b < s₄.heap.objs.size) ∧ s₄.heap.NoLimit ∧ cStatics ∉ wr ∧
     (∀ href : Heap, (∀ b o, s₄.heap.get? b = some o → href.get? b = some o) →
      QuietGenT W.prog W.w (genEnv scope cl s₄.heap.objs.size code bi Φ.env) xa xb [] elt (List.range s₄.heap.objs.size) wr Pt pz F href) ∧
     (∀ a h₅ tk gs, gs.bare = true → s₄.heap.objs.size < a → h₅.objs.size = a + 1 → (∀ b o, s₄.heap.get? b = some o → h₅.get? b = some o) →
      WalksS W.prog W.w Φ.A.in4 a (a :: s₄.heap.objs.size :: List.range s₄.heap.objs.size) (s₄.heap.objs.size :: wr) (GenOnlyQ s₄.gens.size) (passing pz n₀ 0).length
       (fun j y => ∃ i, (passing pz n₀ 0)[j]? = some i ∧ F i y) (GenAt W.prog W.w Φ.A.in4 a s₄.gens.size s₄.heap.objs.size (List.range s₄.heap.objs.size) wr pz n₀ F) →
      GenAt W.prog W.w Φ.A.in4 a s₄.gens.size s₄.heap.objs.size (List.range s₄.heap.objs.size) wr pz n₀ F 0 { s₄ with gens := s₄.gens.push gs, toks := tk, heap := h₅ } →
      Q (.ref a) { s₄ with gens := s₄.gens.push gs, toks := tk, heap := h₅ })) E { s2 with heap := h3, toks := tk3 } := by
  intro h3 tk3 code hk3 hz3 tb3
  have keepg : ∀ b o, Φ.g.get? b = some o → h3.get? b = some o := fun b o e => hk3 b o (gP b o e) (k2.k _ _ (keep1 b o e))
  obtain ⟨bm, ob, hb, hne, ho, hcls, hdict, hdata⟩ := O.T.bmain
  rw [O.glob]
  refine wpAny_builtinsFor (O.T.g.keeps keepg) hb hne (keepg _ _ ho) hcls hdict hdata ?_
  obtain ⟨hlen, Ts, vals, hT⟩ := pairs_of hvs e2
  have hI0 : xad ≠ s1.heap.objs.size := Nat.ne_of_lt (Heap.lt_size I.obj)
  have hI0P : s1.heap.objs.size ≠ P := Nat.ne_of_gt hPlt
  have hTlt : ∀ j, j < vs.length → Ts j < s1.heap.objs.size := fun j hj => by
   obtain ⟨p, t, u, h1, h2, h3, h4⟩ := hT j hj
   exact Heap.lt_size h4.1
  have xm : xad ∈ mutA ρ1 := mem_mutA I.cell (by simp [cellAs])
  refine ⟨s1.heap.objs.size, s1.heap.objs.size :: xad :: (List.range vs.toArray.size).map Ts, [s1.heap.objs.size], vs.toArray.size, _, _, _, fun _ => true, F, rfl,
   fun A' hA => walksSeqTuples hA s1.heap.objs.size xad hI0 vs.toArray Ts vals (fun j hj => ?_) (fun j hj => Nat.ne_of_lt (hTlt j (by simpa using hj))), fun j v hv => ?_, ⟨?_, ?_, fun j hj => ?_⟩, fun b hb => ?_, O.T.nolimit.keeps keepg, ?_, fun href hh => ⟨?_, ?_⟩, ?_⟩
  ·obtain ⟨p, t, u, h1, h2, h3, h4⟩ := hT j (by simpa using hj)
   simpa using h2
  ·obtain ⟨p, t, u, h1, h2, h3, h4⟩ := hT j (by simpa using hv.1)
   exact ⟨_, _, hv.2.trans h3⟩
  ·obtain ⟨o, ho, r⟩ := it2
   exact ⟨o, hk3 _ _ hI0P ho, r⟩
  ·exact ⟨_, hk3 _ _ (fun e => q5 _ xm (mem_T_tb (e ▸ pT))) (k2.k _ _ I.obj), kk, rfl⟩
  ·obtain ⟨p, t, u, h1, h2, h3, h4⟩ := hT j (by simpa using hj)
   rw [h3]
   exact ⟨_, hk3 _ _ (fun e => h4.2 (e ▸ hPM)) (k2.k _ _ h4.1), rfl, _, rfl⟩
  ·have hb' : b ≤ s1.heap.objs.size := by
    rcases List.mem_cons.mp hb with rfl | hb
    ·exact Nat.le_refl _
    ·rcases List.mem_cons.mp hb with rfl | hb
     ·exact Nat.le_of_lt (Heap.lt_size I.obj)
     ·obtain ⟨j, hj, rfl⟩ := List.mem_map.mp hb
      exact Nat.le_of_lt (hTlt j (by simpa using hj))
   have hz : s1.heap.objs.size < h3.objs.size := by omega
   exact Nat.lt_of_le_of_lt hb' hz
  ·intro hm
   simp at hm
   obtain ⟨mc, hns⟩ := O.T.nolimit
   have h1 := (hns.1.keeps keep1).lt
   rw [hm] at h1
   exact Nat.lt_irrefl _ h1
  ·intro A' E' j va vb s₂ m₂ hA hP hns h1 h2 hkp
   show wpAny _ _ (pure true) _ _ _
   exact wpAny_pure ⟨rfl, s₂.heap, s₂.toks, rfl, fun _ _ e => e⟩
  ·intro A' E' j va vb s₂ m₂ hA hP _ hns h1 h2 hkp
   obtain ⟨p, t, u, p1, p2, p3, p4⟩ := hT j (by simpa using hP.1)
   have e := hP.2.trans p3
   have e3 : va = .str p.1 t ∧ vb = .str p.2 u := by
    have := congrArg Array.toList e
    simp at this
    exact this
   obtain ⟨rfl, rfl⟩ := e3
   refine hq A' E' code _ j p t u s₂ m₂ hA p1 hns h1 h2 fun b o e => ?_
   have hb3 := keepg b o e
   refine hkp b (List.mem_range.mpr (Heap.lt_size hb3)) (fun q => ?_) o (hh b o hb3)
   simp at q
   exact Nat.lt_irrefl _ (q ▸ Heap.lt_size (keep1 b o e))
  ·intro a' h₅ tk gs hgb hag hsz₅ hk₅ W' hat
   have hup : ∀ b o, b ∉ TB → s1.heap.get? b = some o → h₅.get? b = some o := fun b o hb e => hk₅ b o (hk3 b o (fun q => hb (q ▸ pT)) (k2.k _ _ e))
   have tb5 : TInv h₅ := tb3.mono hk₅
   obtain ⟨t5, S5⟩ := S1.tbl (s' := { s2 with gens := s2.gens.push gs, toks := tk, heap := h₅ }) hup tb5 o2 (by show AllBare (s2.gens.push gs); rw [g2]; exact S1.gens.push hgb)
   have tlt : ∀ q ∈ TBs, q.1 < s1.heap.objs.size ∧ q.2 < s1.heap.objs.size := fun q hq => by
    obtain ⟨ps, ⟨⟨o, vs, h1, h2, h3, h4⟩, h5⟩, _⟩ := S1.tb q hq
    exact ⟨Heap.lt_size h1, Heap.lt_size h5⟩
   refine k ρ1 vs.length a' _ h3.objs.size s1.heap.objs.size s2.gens.size hlen.symm S5 (t1.trans t5) ⟨_, t5.mono v1⟩ (fun b hb => ?_) W' hat fun s' m1 m2 m3 => ?_
   ·show b < h₅.objs.size
    rw [hsz₅]
    rcases List.mem_cons.mp hb with rfl | hb
    ·exact Nat.lt_succ_self _
    ·rcases List.mem_cons.mp hb with rfl | hb
     ·exact Nat.lt_succ_of_lt hag
     ·exact Nat.lt_succ_of_lt (Nat.lt_trans (List.mem_range.mp hb) hag)
   ·have nw : ∀ b, b < s1.heap.objs.size → b ∉ [h3.objs.size, s1.heap.objs.size] := fun b hb q => by
     simp at q
     have hz : s1.heap.objs.size < h3.objs.size := by omega
     rcases q with rfl | rfl
     ·exact Nat.lt_irrefl _ (Nat.lt_trans hb hz)
     ·exact Nat.lt_irrefl _ hb
    obtain ⟨t6, S6⟩ := S1.tbl (s' := s') (fun b o hb e => m1 b o (nw b (Heap.lt_size e)) (hup b o hb e)) (tb5.but m1 fun q hq => ⟨nw _ (tlt q hq).1, nw _ (tlt q hq).2⟩) (m3.trans o2) (S5.gens.moved m2)
    exact ⟨t1.trans t6, S6⟩
 refine ⟨nl2, ?_⟩
 cases hf : codeAmong pos psT.toList with
 | none =>
  refine wpAny_genexprCodeX hcode (cod.keeps k2.k) (tab.keeps k2.k) hf fun c' h3 tk3 hx3 hge hlt hcode3 _ htab3 _ => ?_
  exact rest h3 tk3 _ (fun b o hb e => hx3 b o hb e) (Nat.le_trans hge (Nat.le_of_lt hlt)) ((S1.tb.mono k2.k).grow hcp hx3 htab3 hcode3)
 | some c' =>
  refine wpAny_genexprCode_hit hcode (cod.keeps k2.k) hf ?_
  exact rest s2.heap s2.toks _ (fun b o _ e => e) (Nat.le_refl _) (S1.tb.mono k2.k)
end
end
end
section
section
section
variable {W : Wd} {Φ : Fx} {ρ ρ' : List Cell} {loc : Loc} {H H' : List AO} {s s1 s' : Shared} {P : Addr → Obj → Prop} {A : Around} {Q : Value → Shared → Prop} {E : Value → Shared → Prop}
theorem se_attr' {o : Expr} {x : Str} {pos : Pos} {fo : EF} {C : Addr} (O : Φ.Ok W) (ho : SE W Φ o fo) (hg : GetOk W C x)
  (he : eval (.Attribute o x pos) Φ.env = (do
   let o' ← eval o Φ.env
   standAt pos.atName
   let r ← holding [o'] (getAttr o' x true)
   letTemporaryGo o o' r
   pure r) := by with_unfolding_all rfl) : SE W Φ (.Attribute o x pos) (attrF fo C x) := fun loc H v H' ρ s Q E hf S k => by
 unfold attrF at hf
 refine obp2 hf fun u H1 e1 hf1 => ?_
 refine obp4 hf1 fun i C' sq fs e2 hf2 => ?_
 clear hf hf1
 dsimp only at hf2
 split at hf2
 ·rename_i hC
  have hCC : C' = C := eq_of_beq hC
  subst hCC
  refine omp hf2 fun v' e3 hf3 => ?_
  cases hf3
  refine Attribute_any_ (ho _ _ _ _ _ _ _ _ e1 S fun X s1 ρ1 t1 S1 v1 => ?_) he
  obtain ⟨a, d, data, es, n, rfl, rfl, hx, I⟩ := S1.inst e2 v1
  obtain ⟨Y, y1, y2⟩ := I.fs.get e3
  refine hg _ _ _ _ _ _ _ _ _ _ (S1.KI O) I.at O.hh y1 (handed_vr y2) fun tk => ?_
  exact k _ _ ρ1 (t1.trans Kp.toks.stp) (S1.kept Kp.toks) y2
 ·cases hf2
theorem ge_builtin (O : Φ.Ok W) {cenv : Env} {x : Str} {pos : Pos} {v : Value} (hk : cenv.scope.kind = .function) (hgl : cenv.globals = mainGlobals) (hbi : cenv.builtins = builtinsNs) (e : nsIn W.K mainGlobals x = some none) (hv : bootBuiltins x = some v) (hn : x ≠ "__name__") (hx : cenv.kindOf x = some .globalImplicit) (hd : (x == ("__debug__" : Str)) = false)
  (keep : ∀ b o, Φ.g.get? b = some o → s.heap.get? b = some o) (h : Q v s) : wpAny W.M A (eval (.Name x pos) cenv) Q E s :=
 Name_function_global hk hx (loadGlobal_builtin (env := cenv) (by rw [hgl]; exact O.T.g.keeps keep) (mg_none_of O.K O.T.g e) (by rw [hbi]; exact O.T.b.keeps keep) ((O.T.builtins x hn).trans hv) h) hd
theorem ge_global (O : Φ.Ok W) {cenv : Env} {x : Str} {pos : Pos} {v : Value} (hk : cenv.scope.kind = .function) (hgl : cenv.globals = mainGlobals) (e : nsIn W.K mainGlobals x = some (some v)) (hx : cenv.kindOf x = some .globalImplicit) (hd : (x == ("__debug__" : Str)) = false)
  (keep : ∀ b o, Φ.g.get? b = some o → s.heap.get? b = some o) (h : Q v s) : wpAny W.M A (eval (.Name x pos) cenv) Q E s :=
 Name_function_global hk hx (loadGlobal_global (env := cenv) (by rw [hgl]; exact O.T.g.keeps keep) (mg_of O.K O.T.g e) h) hd
theorem ge_local {cenv : Env} {x : Str} {pos : Pos} {v : Value} {m : Str → Option Value} (hk : cenv.scope.kind = .function) (hx : cenv.kindOf x = some .local) (hns : s.heap.Ns cenv.locals m) (e : m x = some v) (hd : (x == ("__debug__" : Str)) = false) (h : Q v s) : wpAny W.M A (eval (.Name x pos) cenv) Q E s :=
 wpAny_Name (wpAny_loadName_local hk hx hns e h) hd
theorem ge_len (O : Φ.Ok W) {cenv : Env} {x : Str} {pos p1 p2 : Pos} {y : Str} {t : Tok} {m : Str → Option Value} (hk : cenv.scope.kind = .function) (hgl : cenv.globals = mainGlobals) (hbi : cenv.builtins = builtinsNs) (e : nsIn W.K mainGlobals "len" = some none) (hv : bootBuiltins "len" = some (.builtin "len")) (hx : cenv.kindOf "len" = some .globalImplicit)
  (hx2 : cenv.kindOf x = some .local) (hns : s.heap.Ns cenv.locals m) (e2 : m x = some (.str y t)) (hd : (x == ("__debug__" : Str)) = false) (hz : y.length ≤ 1000000)
  (keep : ∀ b o, Φ.g.get? b = some o → s.heap.get? b = some o) (h : ∀ t k, Q (.int y.length t) { s with toks := k }) : wpAny W.M A (eval (.Call (.Name "len" p1) [.Name x p2] [] pos) cenv) Q E s := by
 refine Call_ (ge_builtin O hk hgl hbi e hv (by decide) hx (by decide) keep ?_)
 exact PyProof.Rows.callWith_builtin1 (args_cons (ge_local hk hx2 hns e2 hd (args_nil (PySem.P.len_str (x := y) (by omega) (h _ _)))))
noncomputable def sumLen (ps : List (Str × Str)) : Int := (ps.map fun p => (p.1.length : Int) + (p.2.length : Int)).sum
noncomputable def valLen (ps : List (Str × Str)) (j : Nat) : Int := match ps[j]? with | some p => (p.1.length : Int) + (p.2.length : Int) | none => 0
theorem preSum_len (ps : List (Str × Str)) : preSum (valLen ps) ps.length = sumLen ps := by
 have h : ∀ n, n ≤ ps.length → preSum (valLen ps) n = sumLen (ps.take n) := by
  intro n
  induction n with
  | zero => intro _; simp [preSum, sumLen]
  | succ n ih =>
   intro hn
   have e : ps[n]? = some ps[n] := List.getElem?_eq_getElem hn
   rw [preSum, ih (by omega), List.take_add_one, e]
   unfold sumLen valLen
   rw [e]
   simp only [Option.toList_some, List.map_append, List.map_cons, List.map_nil, List.sum_append, List.sum_cons, List.sum_nil]
   omega
 rw [h _ (Nat.le_refl _), List.take_length]
theorem passing_all {n : Nat} : passing (fun _ => true) n 0 = List.range n := by unfold passing; simp
noncomputable def len145 (args : List V) (H : List AO) : Option (V × List AO) := match args with
 | [a] => (seqOf? 178 H a).bind fun q => (pairsV q.2.1).bind fun ps => match q.2.2.lookup ("_initial_size" : Str) with
  | some (.int k) => if small k && ps.all fun p => decide (p.1.length ≤ 1000000) && decide (p.2.length ≤ 1000000) then some (.int (k + sumLen ps), H) else none
  | _ => none
 | _ => none
end
section
variable {w : World} {p : Program} {loose : List Str} {mean : ExcName → Option Value} {mg mb : Str → Option Value}
theorem boot_len : bootBuiltins "len" = some (.builtin "len") := by kernel_rfl
theorem boot_sum : bootBuiltins "sum" = some (.builtin "sum") := by kernel_rfl
theorem f145 : FnOk (Wc w p loose mean mg mb) 0 (.ref 145) len145 := by
 refine FnOk.of (fn_ok (fo := ?fo) (fd := ?fd) (body := ?body) (xs := [("self", none)]) (bind := bindP ["self"]) (B := seqF (retF fun loc H => (loc[0]?.join).bind fun a => len145 [a] H) fun loc H => some (.next, loc, H)) ?ho ?hd ?hb ?hcl ?hgl ?hbi ?hcd ?hco ?hgen ?hk ?hbind ?hbody) ?spec
 case ho => exact rfl
 case hd => exact rfl
 case hb => exact rfl
 case hcl => rfl
 case hgl => rfl
 case hbi => rfl
 case hcd => rfl
 case hco => rfl
 case hgen => rfl
 case hk => decide
 case hbind => exact bnd1 (fun X => rfl) (by decide)
 case spec =>
  intro a H v H' e
  have e0 := e
  unfold len145 at e
  split at e
  ·rename_i u
   show ((((some u).bind fun a => len145 [a] H).map fun p => (FL.ret p.1, _, p.2)).bind _ |>.bind _) = _
   simp only [Option.bind_some, e0, Option.map_some]
   rfl
  ·cases e
 case hbody =>
  intro A g L base fr O
  refine sx_cons (sx_return ?m1) sx_nil
  case m1 =>
   intro loc H v H' ρ s Q E hf S k
   refine obp hf fun a e0 hf => ?_
   unfold len145 at hf
   refine obp3 hf fun i xs fs e1 hf => ?_
   refine obp hf fun ps e2 hf => ?_
   dsimp only at hf
   split at hf
   ·rename_i z e3
    split at hf
    ·rename_i hz
     cases hf
     simp only [Bool.and_eq_true, List.all_eq_true, decide_eq_true_eq] at hz
     have hl : loc[0]? = some (some a) := by
      cases q : loc[0]? with
      | none => simp [q] at e0
      | some y => cases y with
       | none => simp [q] at e0
       | some y => simp [q] at e0; rw [e0]
     refine Call_ (sn_builtin O (by rfl) boot_sum (by decide) (by rfl) (by rfl) _ _ _ _ _ _ S ?_)
     refine PyProof.Rows.callWith_builtin1 (args_cons ?_)
     refine gen_ready O sub178 (c := 144) (P := 140) (by simp [TBs]) (by rfl) (by have := O.depth; omega) S (k := 0) (x := "self") (kx := none) (by rfl) (by rfl) hl e1 e2 (F := fun j y => ∃ t, y = .int (valLen ps j) t) (by rfl) (by rfl) ?q1 (by rfl) (by rfl) (by rfl) (by decide) (by rfl) ?q2 ?q3 ?q4
     case q1 => decide
     case q4 => intro v; rfl
     case q2 =>
      intro A' E' code C0 j q t u s₂ m₂ hA hq hns h1 h2 keep
      have hm := hz.2 q (List.mem_of_getElem? hq)
      refine wpAny_BinOp (ge_len O (by rfl) (by exact O.glob) (by rfl) (by rfl) boot_len (by rfl) (by rfl) hns h1 (by rfl) hm.1 keep fun t1 k1 => ?_)
      refine ge_len O (by rfl) (by exact O.glob) (by rfl) (by rfl) boot_len (by rfl) (by rfl) hns h2 (by rfl) hm.2 keep fun t2 k2 => ?_
      have e9 : valLen ps j = (q.1.length : Int) + (q.2.length : Int) := by unfold valLen; rw [hq]
      exact PyProof.Rows.add_int ⟨⟨_, congrArg (fun z => Value.int z _) e9.symm⟩, s₂.heap, _, rfl, fun _ _ e => e⟩
     case q3 =>
      intro ρ1 n a' s5 C0 I g hn S5 t5 hX hbd W' hat hmv
      refine args_cons ?_
      refine Attribute_any_ (raw_name O 0 rfl rfl hl S5 fun X hX => ?_)
      obtain ⟨xad, d, vs, kk, es, m', rfl, rfl, hx, II, hvs⟩ := S5.seq e1 hX
      obtain ⟨Y, y1, y2⟩ := II.fs.get e3
      cases y2
      refine get178 (w := w) (p := p) (loose := loose) (mean := mean) (mg := mg) (mb := mb) _ _ _ _ _ _ _ _ _ _ (S5.KI O) II.at O.hh y1 rfl fun tk => ?_
      refine args_nil ?_
      have hk := hz.1
      simp only [small, Bool.and_eq_true, decide_eq_true_eq] at hk
      refine call_sum2 (by omega) ?_
      have W1 := W'.of_in1.of_in1.of_in1
      refine W1.self 0 _ _ _ (by exact hat) ?_
      refine ⟨a', _, _, _, _, _, _, valLen ps, rfl, W1, by exact hat, hbd, fun j v hv => ?_, fun s' t' hm => ?_⟩
      ·obtain ⟨j', h1, h2⟩ := hv
       rw [passing_all] at h1
       have : j = j' := by
        obtain ⟨_, e⟩ := List.getElem?_eq_some_iff.mp h1
        simpa using e
       subst this
       exact h2
      ·obtain ⟨t6, S6⟩ := hmv s' hm.heap hm.gens hm.os
       have e : preSum (valLen ps) (passing (fun _ => true) n 0).length = sumLen ps := by rw [passing_all, List.length_range, hn]; exact preSum_len ps
       rw [e]
       exact k _ _ _ t6 S6 (.int _ _)
    ·cases hf
   ·cases hf
end
end
end
section
section
noncomputable abbrev eStr : Str := ⟨#[]⟩
noncomputable def oneStr (p : Str × Str) : Str := Txt.join eStr [p.1, p.2]
noncomputable def allStr (ps : List (Str × Str)) : Str := Txt.join eStr (ps.map oneStr)
noncomputable def str152 (args : List V) (H : List AO) : Option (V × List AO) := match args with
 | [a] => (seqOf? 178 H a).bind fun q => (pairsV q.2.1).bind fun ps => if (ps.map fun p => (oneStr p).length).sum + ps.length ≤ 1048576 ∧ ps.all (fun p => decide (p.1.length + p.2.length ≤ 1000000)) = true then some (.str (allStr ps), H) else none
 | _ => none
section
variable {w : World} {p : Program} {loose : List Str} {mean : ExcName → Option Value} {mg mb : Str → Option Value}
theorem f152 : FnOk (Wc w p loose mean mg mb) 0 (.ref 152) str152 := by
 refine FnOk.of (fn_ok (fo := ?fo) (fd := ?fd) (body := ?body) (xs := [("self", none)]) (bind := bindP ["self"]) (B := seqF (retF fun loc H => (loc[0]?.join).bind fun a => str152 [a] H) fun loc H => some (.next, loc, H)) ?ho ?hd ?hb ?hcl ?hgl ?hbi ?hcd ?hco ?hgen ?hk ?hbind ?hbody) ?spec
 case ho => exact rfl
 case hd => exact rfl
 case hb => exact rfl
 case hcl => rfl
 case hgl => rfl
 case hbi => rfl
 case hcd => rfl
 case hco => rfl
 case hgen => rfl
 case hk => decide
 case hbind => exact bnd1 (fun X => rfl) (by decide)
 case spec =>
  intro a H v H' e
  have e0 := e
  unfold str152 at e
  split at e
  ·rename_i u
   show ((((some u).bind fun a => str152 [a] H).map fun p => (FL.ret p.1, _, p.2)).bind _ |>.bind _) = _
   simp only [Option.bind_some, e0, Option.map_some]
   rfl
  ·cases e
 case hbody =>
  intro A g L base fr O
  refine sx_cons (sx_return ?m1) sx_nil
  case m1 =>
   intro loc H v H' ρ s Q E hf S k
   refine obp hf fun a e0 hf => ?_
   unfold str152 at hf
   refine obp3 hf fun i xs fs e1 hf => ?_
   refine obp hf fun ps e2 hf => ?_
   split at hf
   ·rename_i hz
    cases hf
    obtain ⟨hz1, hz2⟩ := hz
    simp only [List.all_eq_true, decide_eq_true_eq] at hz2
    have hl : loc[0]? = some (some a) := by
     cases q : loc[0]? with
     | none => simp [q] at e0
     | some y => cases y with
      | none => simp [q] at e0
      | some y => simp [q] at e0; rw [e0]
    have eK : ∃ t, nsIn (Wc w p loose mean mg mb).K mainGlobals "EMPTYSTRING" = some (some (.str eStr t)) := ⟨_, by rfl⟩
    obtain ⟨t0, eK⟩ := eK
    refine MethodCall_ (sn_global O eK (by rfl) (by rfl) _ _ _ _ _ _ S ?_) (by rfl)
    with_reducible refine GM.join ?_
    refine callWith_method1 (args_cons ?_)
    refine gen_ready O sub178 (c := 151) (P := 147) (by simp [TBs]) (by rfl) (by have := O.depth; omega) S (k := 0) (x := "self") (kx := none) (by rfl) (by rfl) hl e1 e2 (F := fun j y => ∃ t, y = .str (oneStr (ps[j]?.getD (eStr, eStr))) t) (by rfl) (by rfl) ?q1 (by rfl) (by rfl) (by rfl) (by decide) (by rfl) ?q2 ?q3 ?q4
    case q1 => decide
    case q4 => intro v; rfl
    case q2 =>
     intro A' E' code C0 j q t u s₂ m₂ hA hq hns h1 h2 keep
     have hm := hz2 q (List.mem_of_getElem? hq)
     refine MethodCall_ (ge_global O (by rfl) (by exact O.glob) eK (by rfl) (by rfl) keep ?_) (by rfl)
     with_reducible refine GM.join ?_
     refine callWith_method1 (args_cons ?_)
     refine wpAny_Tuple (wpAny_items_cons (ge_local (by rfl) (by rfl) hns h1 (by rfl) (wpAny_items_cons (ge_local (by rfl) (by rfl) hns h2 (by rfl) (args_nil ?_)))))
     refine ⟨by rw [sizeLine_eq]; show 2 ≤ _; decide, args_nil ?_⟩
     refine join_tupleW (ys := [q.1, q.2]) ⟨_, Heap.get?_push_size _ rfl, rfl, _, rfl⟩ (.cons _ _ (.cons _ _ .nil)) (by decide) (by simp; omega) fun t' k' => ?_
     refine ⟨⟨t', ?_⟩, _, _, rfl, fun b o e => Heap.get?_push_of_some _ e⟩
     rw [hq]; rfl
    case q3 =>
     intro ρ1 n a' s5 C0 I g hn S5 t5 hX hbd W' hat hmv
     refine args_nil ?_
     have W1 := W'.in4_2
     have hlen : (passing (fun _ => true) n 0).length = ps.length := by rw [passing_all, List.length_range, hn]
     refine SC.joinGen W1 (fun i s st => st.1.typeIs) hat hbd List.mem_cons_self (fun i v hv => ?_) (fun s' lt hm hacc => ?_) (by rw [hlen, sizeLine_eq]; omega)
     ·obtain ⟨j', h1, t, h2⟩ := hv
      exact ⟨_, t, h2⟩
     ·have hl2 : lt.map (·.1) = ps.map oneStr := by
       apply List.ext_getElem?
       intro j
       have hsz : lt.length = ps.length := by rw [← hlen]; simpa [strValues] using hacc.1
       by_cases hj : j < ps.length
       ·have hj' : j < lt.length := hsz ▸ hj
        obtain ⟨j2, h1, u, hv⟩ := hacc.2 j (.str lt[j].1 lt[j].2) (by simp [strValues, List.getElem?_eq_getElem hj'])
        rw [passing_all] at h1
        have : j = j2 := by
         obtain ⟨_, e⟩ := List.getElem?_eq_some_iff.mp h1
         simpa using e
        subst this
        injection hv with h3 _
        simp [List.getElem?_eq_getElem hj', List.getElem?_eq_getElem hj, hj, h3]
       ·rw [List.getElem?_eq_none (by simpa [hsz] using Nat.le_of_not_lt hj), List.getElem?_eq_none (by simpa using Nat.le_of_not_lt hj)]
      rw [hl2]
      obtain ⟨t6, S6⟩ := hmv s' hm.heap hm.gens hm.os
      refine ⟨joinOk_of_weight (by simpa [List.map_map, Function.comp_def] using hz1) (by decide), fun t' k' => ?_⟩
      exact k _ _ _ (t6.trans Kp.toks.stp) (S6.kept Kp.toks) (.str _ _)
   ·cases hf
end
end
end
section
section
noncomputable abbrev Fx.at (Φ : Fx) (A : Around) : Fx := { Φ with A := A }
section
variable {W : Wd} {Φ : Fx} {ρ ρ' : List Cell} {loc : Loc} {H : List AO} {s s' : Shared}
theorem SI.inA (S : SI W Φ ρ loc H s) (A : Around) : SI W (Φ.at A) ρ loc H s := ⟨S.m, S.cl, S.hp, S.nd, S.gn, S.lt, S.tb, S.gens, S.up⟩
theorem SI.outA {A : Around} (S : SI W (Φ.at A) ρ loc H s) : SI W Φ ρ loc H s := ⟨S.m, S.cl, S.hp, S.nd, S.gn, S.lt, S.tb, S.gens, S.up⟩
theorem Stp.inA (t : Stp Φ ρ ρ' s s') (A : Around) : Stp (Φ.at A) ρ ρ' s s' := ⟨t.pre, t.keep, t.os⟩
theorem Stp.outA {A : Around} (t : Stp (Φ.at A) ρ ρ' s s') : Stp Φ ρ ρ' s s' := ⟨t.pre, t.keep, t.os⟩
theorem wp_storeA (O : Φ.Ok W) {i : Nat} {x : Str} {k : Option Addr} (hn : Φ.names[i]? = some (x, k)) {v : V} {X : Value} {A : Around} {Q : Unit → Shared → Prop} {E : Value → Shared → Prop} (S : SI W Φ ρ loc H s) (hv : VR (Φ.P ρ s.heap) ρ v X)
  (hfree : k ≠ none → Φ.env.kindOf x = some .cell)
  (h : ∀ s', Stp Φ ρ ρ s s' → SI W Φ ρ (loc.set i (some v)) H s' → Q () s') : wpAny W.M A (storeName Φ.env x X) Q E s := wp_store O hn S hv hfree h
theorem se_nameA (O : Φ.Ok W) (A : Around) (i : Nat) {x : Str} {k : Option Addr} {pos : Pos} (hn : Φ.names[i]? = some (x, k)) (hd : (x == ("__debug__" : Str)) = false) : SE W (Φ.at A) (.Name x pos) (fun loc H => loc[i]?.join.map (·, H)) := fun loc H v H' ρ s Q E hf S' kk =>
 omp hf fun u hl q => raw_name O i hn hd (join_some hl) S'.outA fun X r => kk.of q X s ρ .refl S' r
theorem sx_augA (O : Φ.Ok W) (A : Around) (i : Nat) {x : Str} {k : Option Addr} {p pos : Pos} {op : Operator} {e : Expr} {f : EF} {h} (hn : Φ.names[i]? = some (x, k)) (he : SE W (Φ.at A) e f) (ho : S2 W (Φ.at A) (inplaceOp op) h) (hk : k ≠ none → Φ.env.kindOf x = some .cell) :
  SX W (Φ.at A) (exec (.AugAssign (.Name x p) op e pos) Φ.env) (augF i f h) := fun loc H r loc' H' ρ s Q E hf S' kk => obp hf fun a e0 hf => obp2 hf fun b H1 e1 hf => omp2 hf fun c H2 e2 hf =>
 wpAny_AugAssign_Name (wp_load O i hn (join_some e0) S'.outA fun X va => he _ _ _ _ _ _ _ _ e1 S' fun Y s2 ρ2 t2 S2' v2 => ho _ _ _ _ _ _ _ _ _ _ _ _ e2 S2' (t2.mono va) v2 fun Z s3 ρ3 t3 S3 v3 => wp_store O hn S3.outA v3 hk fun s4 t4 S4 => kk.of hf _ _ _ ((t2.trans t3).trans (t4.inA A)) (S4.inA A) trivial)
noncomputable def eqI : List AO → V → V → Option (V × List AO) := pure2 (int2 fun x y => some (.bool (x == y)))
theorem op_eqI : S2 W Φ (compareOp .Eq) eqI := fun loc H a b v H' X Y ρ s Q E hf S ha hb k => omp hf fun u e q => obp e fun x e1 e => obp e fun y e2 e => by
 replace k := k.of q
 obtain ⟨t, rfl⟩ := ha.isInt e1
 obtain ⟨t', rfl⟩ := hb.isInt e2
 cases e
 exact PyProof.Rows.eq_int (k _ _ ρ .refl S (.bool _))
end
end
end
section
section
structure FrOk (Φ : Fx) : Prop where
 hd : ∃ outer, Φ.fr = Φ.env :: outer
 fr : Φ.env.frame = some Φ.L
 all : ∀ e ∈ Φ.fr, e.frame = some Φ.L ∨ ∃ b ∈ Φ.base.X, e.frame = some b
 xd : ∀ a ∈ Φ.base.X, a ∈ Φ.base.F ∧ ∃ o es ep, Φ.base.h0.get? a = some o ∧ o.data = .dict es ep
noncomputable def excNf (X : String) : Bool := X != "tuple" && (X != "list" && X != "range")
structure Exc (Φ : Fx) (s0 : Shared) (ρ : List Cell) (h : Heap) (e : Addr) (X : String) (st : Option Value) : Prop where
 new : s0.heap.get? e = none
 nm : e ∉ Φ.M ρ
 obj : match st with
  | none => ∃ ob vs, h.get? e = some ob ∧ ob.cls = .type X ∧ ob.data = .fields vs ∧ vs[1]? = some .none
  | some fl => ∃ ob vs tb otb tvs, h.get? e = some ob ∧ ob.cls = .type X ∧ ob.data = .fields vs ∧ vs[1]? = some (.ref tb) ∧ h.get? tb = some otb ∧ otb.cls = .type "traceback" ∧ otb.data = .fields tvs ∧ tvs[3]? = some fl ∧ tb ≠ e ∧ s0.heap.get? tb = none ∧ tb ∉ Φ.M ρ
theorem notFlat_of {o : Obj} {X : String} (h : o.cls = .type X) (hx : excNf X = true) : ¬ Flat o := fun fl => by
 unfold excNf at hx
 simp only [Bool.and_eq_true, bne_iff_ne, ne_eq] at hx
 rcases fl.2 with e | e | e <;> (rw [h] at e; injection e with e)
 ·exact hx.1 e
 ·exact hx.2.1 e
 ·exact hx.2.2 e
section
variable {W : Wd} {Φ : Fx} {ρ ρ' ρ0 : List Cell} {loc loc0 : Loc} {H H0 : List AO} {s s' s0 s1 : Shared} {e : Addr} {X : String} {A : Around} {Q : Unit → Shared → Prop} {E : Value → Shared → Prop}
theorem none_back (S0 : SI W Φ ρ0 loc0 H0 s0) (t : Stp Φ ρ0 ρ s0 s) (S : SI W Φ ρ loc H s) {b : Addr} (h : s.heap.get? b = none) : s0.heap.get? b = none := by
 cases q : s0.heap.get? b with
 | none => rfl
 | some o =>
  by_cases m : b ∈ Φ.M ρ0
  ·obtain ⟨o', e'⟩ := S.has (M_prefix t.pre m)
   rw [h] at e'; cases e'
  ·have := (t.keep b o q m).1
   rw [h] at this; cases this
theorem Exc.back {st : Option Value} {h : Heap} (x : Exc Φ s ρ' h e X st) (S0 : SI W Φ ρ0 loc0 H0 s0) (t : Stp Φ ρ0 ρ s0 s) (S : SI W Φ ρ loc H s) : Exc Φ s0 ρ' h e X st := by
 refine ⟨none_back S0 t S x.new, x.nm, ?_⟩
 have z := x.obj
 cases st with
 | none => exact z
 | some fl =>
  obtain ⟨ob, vs, tb, otb, tvs, h1, h2, h3, h4, h5, h6, h7, h8, h9, h10, h11⟩ := z
  exact ⟨ob, vs, tb, otb, tvs, h1, h2, h3, h4, h5, h6, h7, h8, h9, none_back S0 t S h10, h11⟩
theorem SI.slots (S : SI W Φ ρ loc H s) {fs : List Addr} {h' : Heap} (hs : Heap.SlotsOnly fs s.heap h') (hfs : ∀ b ∈ fs, b = Φ.L ∨ b ∈ Φ.base.X) (hxd : ∀ a ∈ Φ.base.X, a ∈ Φ.base.F ∧ ∃ o es ep, Φ.base.h0.get? a = some o ∧ o.data = .dict es ep) : Stp Φ ρ ρ s { s with heap := h' } ∧ SI W Φ ρ loc H { s with heap := h' } := by
 have p1 := S.p1
 have p2 := S.p2
 have p3 := S.p3
 have p4 := S.p4
 have p5 := S.p5
 have inM : ∀ b ∈ fs, b ∈ Φ.M ρ := fun b hb => (hfs b hb).elim (fun q => q ▸ mem_M_L) fun q => mem_M_tb (mem_T_X q)
 have kp : ∀ b o, b ∉ fs → s.heap.get? b = some o → h'.get? b = some o := fun b o hb e => (hs.2.1 b hb).trans e
 have pm : ∀ a o, Φ.P ρ s.heap a o → Φ.P ρ h' a o := fun a o z => ⟨kp a o (fun q => z.2 (inM a q)) z.1, z.2⟩
 have mk : ∀ a ∈ mutA ρ, a ∉ fs := fun a ha q => (hfs a q).elim (fun z => p2 (z ▸ ha)) fun z => p5 a ha (mem_T_X z)
 have ck : ∀ a ∈ Φ.cells, a ∉ fs := fun a ha q => (hfs a q).elim (fun z => p1 (z ▸ ha)) fun z => (p4 a ha).2 (mem_T_X z)
 have bk : ∀ a ∈ TB, a ∉ fs := fun a ha q => (hfs a q).elim (fun z => p3 (z ▸ mem_T_tb ha)) fun z => notTB S z ha
 have cellk : ∀ c ∈ Φ.cells, ∀ v, s.heap.IsCell c v → h'.IsCell c v := fun c hc v ⟨o, e, d⟩ => ⟨o, kp c o (ck c hc) e, d⟩
 obtain ⟨m, F, l⟩ := S.m
 obtain ⟨oL, es, ep, eL, rL⟩ := F.ns
 obtain ⟨sl, eL'⟩ := hs.2.2 _ _ eL
 refine ⟨⟨fun _ _ h => h, fun a o e n => ⟨kp a o (fun q => n (inM a q)) e, n⟩, rfl⟩, ⟨m, ⟨⟨_, es, ep, eL', rL⟩, fun b o e => kp b o (fun q => by have := S.gn b (inM b q); rw [e] at this; cases this) (F.keep b o e), F.above⟩, l.mono cellk pm fun _ _ h => h⟩, fun c hc => ?_, ⟨S.hp.1, fun i c o h1 h2 => (S.hp.2 i c o h1 h2).mono (fun a ha o e => kp a o (mk a (mem_mutA h1 ha)) e) pm fun _ _ h => h⟩, S.nd, S.gn, fun a ha => by show a < h'.objs.size; rw [hs.1]; exact S.lt a ha, ?_, S.gens, fun a ha => ?_⟩
 ·obtain ⟨v, h⟩ := S.cl c hc
  exact ⟨v, cellk c hc v h⟩
 ·refine S.tb.but (wr := fs) kp fun q hq => ?_
  have h2 : q.2 ∈ TB := by
   unfold TBs at hq; unfold TB
   simp at hq
   rcases hq with rfl | rfl <;> simp
  refine ⟨fun hm => ?_, bk _ h2⟩
  have hM := inM _ hm
  obtain ⟨ps, ⟨⟨o, vs, k1, k2, k3, k4⟩, k5⟩, _⟩ := S.tb q hq
  rcases hfs _ hm with z | z
  ·rw [z, eL] at k1; cases k1; rw [rL.1] at k3; cases k3
  ·obtain ⟨o1, o2, u1, u2, u3, _⟩ := S.up _ z
   obtain ⟨_, o9, es, ep, w1, w2⟩ := hxd _ z
   rw [u1] at w1; cases w1
   rw [u2] at k1; cases k1; rw [u3, w2] at k3; cases k3
 ·obtain ⟨o, o', u1, u2, u3, u4⟩ := S.up a ha
  obtain ⟨sl, e⟩ := hs.2.2 _ _ u2
  exact ⟨o, _, u1, e, u3, .inr (hxd a ha).1⟩
theorem exc_note (O : Φ.Ok W) (hf : FrOk Φ) (hx : excNf X = true) (hA : A.frames = Φ.A.frames) (S0 : SI W Φ ρ0 loc0 H0 s0) (t : Stp Φ ρ0 ρ s0 s) (S : SI W Φ ρ loc H s) {st : Option Value} (x : Exc Φ s0 ρ s.heap e X st) (hst : st = none ∨ st = some (rawInt Φ.L))
  (k : ∀ h', Stp Φ ρ0 ρ s0 { s with heap := h' } → SI W Φ ρ loc H { s with heap := h' } → Exc Φ s0 ρ h' e X (some (rawInt Φ.L)) → Q () { s with heap := h' }) : wpAny W.M A (noteFrame (.ref e) Φ.env) Q E s := by
 rcases hst with rfl | rfl
 ·obtain ⟨ob, vs, he, hcls, hd, h1⟩ := x.obj
  have hsz : 1 < vs.size := (Array.getElem?_eq_some_iff.mp h1).1
  obtain ⟨outer, hfr⟩ := hf.hd
  obtain ⟨m, F, l⟩ := S.m
  have hl : s.heap.FunFrames Φ.base.b (Φ.env :: outer) := hfr ▸ O.stack _ ⟨m, F⟩ S.up
  unfold noteFrame
  simp only [hf.fr]
  refine wpAny_bind (wpAny_field he hd h1 ?_)
  rw [if_neg (by decide)]
  refine wpAny_bind (wpAny_frameOf_fun (A := A) (by rw [hA, O.frames, hfr]) hl hf.fr fun h₁ hs₁ => ?_)
  obtain ⟨t1, S1⟩ := S.slots hs₁ (fun b hb => by
   obtain ⟨ev, hev, eb⟩ := List.mem_filterMap.mp hb
   rcases hf.all ev (hfr ▸ hev) with h | ⟨b', hb', h⟩
   ·exact .inl (Option.some.inj (eb.symm.trans h))
   ·exact .inr ((Option.some.inj (eb.symm.trans h)) ▸ hb')) hf.xd
  refine wpAny_bind (wpAny_entryPlaceOf fun pl hpl => ?_)
  unfold EntryCells.newEntry newFields
  refine wpAny_bind (wpAny_newObj_type ?_ (hpl.sizeOk5 _ _ _ _ _))
  have nfs : e ∉ (Φ.env :: outer).filterMap (·.frame) := fun hm => by
   obtain ⟨_, o, ho, hnf⟩ := hl.mem hm
   rw [he] at ho; cases ho; exact hnf vs hd
  have he₁ : h₁.get? e = some ob := (hs₁.2.1 e nfs).trans he
  generalize htb : ({ cls := .type "traceback", dict := none, data := .fields ([Value.none, .ref Φ.L, .none, rawInt Φ.L, .none] ++ (if pl.isEmpty then List.replicate 6 Value.none else pl)).toArray } : Obj) = otb
  have he₂ : (h₁.push otb).get? e = some ob := Heap.get?_push_of_some _ he₁
  have hTe : h₁.objs.size ≠ e := Nat.ne_of_gt (Heap.lt_size he₁)
  refine wpAny_setField he₂ hd hsz ?_
  have k2 : Kp ({ s with heap := h₁ } : Shared) { s with heap := h₁.push otb } := Kp.pushO _ _
  have S2 := S1.kept k2
  have hup : ∀ b o, b ∉ [e] → (h₁.push otb).get? b = some o → ((h₁.push otb).update e (Obj.mapFields (·.setIfInBounds 1 (Value.ref h₁.objs.size)))).get? b = some o := fun b o hb eb => by
   rw [Heap.get?_update_other _ _ (fun q => hb (by simp [q]))]; exact eb
  obtain ⟨t3, S3, _⟩ := SI.wstep S0 ((t.trans t1).trans k2.stp) S2 (wr := [e]) (fun b hb => by simp at hb; subst hb; exact ⟨x.new, x.nm⟩) (fun b hb => by simp at hb; subst hb; exact ⟨ob, he₂, notFlat_of hcls hx⟩) (tk := s.toks) hup
  have hsz1 : h₁.objs.size = s.heap.objs.size := hs₁.1
  have hd₃ := Obj.data_mapFields hd (·.setIfInBounds 1 (Value.ref h₁.objs.size))
  refine k _ t3 S3 ⟨x.new, x.nm, ?_⟩
  refine ⟨_, _, h₁.objs.size, otb, _, Heap.get?_update_self _ he₂ (Obj.isFreed_of_fields hd₃), (Obj.cls_mapFields _ _).trans hcls, hd₃, by simp [hsz], ?_, by rw [← htb], by rw [← htb], by rw [show rawInt Φ.L = rawInt Φ.L from rfl]; simp, hTe, ?_, ?_⟩
  ·rw [Heap.get?_update_other _ _ (Ne.symm hTe)]
   exact Heap.get?_push_size _ (by rw [← htb]; rfl)
  ·refine none_back S0 t S ?_
   rw [hsz1]; exact get_none_of_size (Nat.le_refl _)
  ·rw [hsz1]; exact fun q => Nat.lt_irrefl _ (S.lt _ q)
 ·have z := x.obj
  obtain ⟨ob, vs, tb, otb, tvs, h1, h2, h3, h4, h5, h6, h7, h8, h9, h10, h11⟩ := z
  unfold noteFrame
  simp only [hf.fr]
  refine wpAny_bind (wpAny_field h1 h3 h4 ?_)
  rw [if_pos (show (Value.ref tb != Value.none) = true from by simp)]
  refine wpAny_bind (wpAny_field h5 h7 h8 ?_)
  rw [if_pos (show (rawInt Φ.L == rawInt Φ.L) = true from by first | (simp; done) | exact beq_self_eq_true _)]
  exact wpAny_pure (k s.heap t S x)
theorem exc_flight (hx : excNf X = true) (S0 : SI W Φ ρ0 loc0 H0 s0) (t : Stp Φ ρ0 ρ s0 s) (S : SI W Φ ρ loc H s) {old : Value} (x : Exc Φ s0 ρ s.heap e X (some old)) (o : Option Addr)
  (k : ∀ h', Stp Φ ρ0 ρ s0 { s with heap := h' } → SI W Φ ρ loc H { s with heap := h' } → Exc Φ s0 ρ h' e X (some (o.elim Value.none fun f => rawInt f)) → Q () { s with heap := h' }) : wpAny W.M A (setFlight (.ref e) o) Q E s := by
 obtain ⟨ob, vs, tb, otb, tvs, h1, h2, h3, h4, h5, h6, h7, h8, h9, h10, h11⟩ := x.obj
 have hsz : 3 < tvs.size := (Array.getElem?_eq_some_iff.mp h8).1
 unfold setFlight
 refine wpAny_bind (wpAny_field h1 h3 h4 ?_)
 rw [if_pos (show (Value.ref tb != Value.none) = true from by simp)]
 refine wpAny_setField h5 h7 hsz ?_
 have hup : ∀ b o', b ∉ [tb] → s.heap.get? b = some o' → (s.heap.update tb (Obj.mapFields (·.setIfInBounds 3 (o.elim Value.none fun f => rawInt f)))).get? b = some o' := fun b o' hb eb => by
  rw [Heap.get?_update_other _ _ (fun q => hb (by simp [q]))]; exact eb
 obtain ⟨t3, S3, _⟩ := SI.wstep S0 t S (wr := [tb]) (fun b hb => by simp at hb; subst hb; exact ⟨h10, h11⟩) (fun b hb => by simp at hb; subst hb; exact ⟨otb, h5, notFlat_of h6 (by decide)⟩) (tk := s.toks) hup
 have hd₃ := Obj.data_mapFields h7 (·.setIfInBounds 3 (o.elim Value.none fun f => rawInt f))
 refine k _ t3 S3 ⟨x.new, x.nm, ?_⟩
 exact ⟨ob, vs, tb, _, _, (Heap.get?_update_other _ _ h9).trans h1, h2, h3, h4, Heap.get?_update_self _ h5 (Obj.isFreed_of_fields hd₃), (Obj.cls_mapFields _ _).trans h6, hd₃, by simp [hsz], h9, h10, h11⟩
theorem exc_up (O : Φ.Ok W) (hf : FrOk Φ) (hx : excNf X = true) (hA : A.frames = Φ.A.frames) (S0 : SI W Φ ρ0 loc0 H0 s0) (t : Stp Φ ρ0 ρ s0 s) (S : SI W Φ ρ loc H s) {st : Option Value} (x : Exc Φ s0 ρ s.heap e X st) (hst : st = none ∨ st = some (rawInt Φ.L)) {A' : Around}
  (k : ∀ h', Stp Φ ρ0 ρ s0 { s with heap := h' } → SI W Φ ρ loc H { s with heap := h' } → Exc Φ s0 ρ h' e X (some (rawInt Φ.L)) → E (.ref e) { s with heap := h' }) : notedBy W.M A Φ.env (cameBackBy W.M A' Φ.env E) (.ref e) s := by
 refine exc_note O hf hx hA S0 t S x hst fun h1 t1 S1 x1 => ?_
 obtain ⟨ob, vs, tb, otb, tvs, g1, g2, g3, g4, _⟩ := x1.obj
 show wpAny _ _ _ _ _ _
 refine wpAny_bind (wpAny_field g1 g3 g4 ?_)
 rw [if_neg (show ¬ ((Value.ref tb == Value.none) = true) from by simp)]
 first | refine wpAny_bind (wpAny_pure ?_) | skip
 rw [hf.fr]
 exact exc_flight hx S0 t1 S1 x1 (some Φ.L) fun h2 t2 S2 x2 => k h2 t2 S2 x2
theorem Exc.raised (S : SI W Φ ρ loc H s) {h' : Heap} (x : Heap.NewExc s.heap h' e X) : Exc Φ s ρ h' e X none := by
 obtain ⟨ob, tp, he, hcls, hd⟩ := x.there
 refine ⟨x.new, fun q => ?_, ob, _, he, hcls, hd, rfl⟩
 obtain ⟨o, e'⟩ := S.has q
 rw [x.new] at e'; cases e'
end
end
end
section
section
inductive RL where | ok (r : FL) | exc
inductive RV where | val (v : V) | exc
noncomputable abbrev RF := Loc → List AO → Option (RL × Loc × List AO)
noncomputable abbrev RE := Loc → List AO → Option (RV × List AO)
noncomputable def ExcSt (Φ : Fx) (st : Option Value) : Prop := st = none ∨ st = some (rawInt Φ.L)
noncomputable def XK (W : Wd) (Φ : Fx) (X : String) (ρ : List Cell) (s : Shared) (E : Value → Shared → Prop) (l : Loc) (h : List AO) : Prop := ∀ e st s' ρ', Stp Φ ρ ρ' s s' → SI W Φ ρ' l h s' → Exc Φ s ρ' s'.heap e X st → ExcSt Φ st → E (.ref e) s'
noncomputable def RX.K (W : Wd) (Φ : Fx) (X : String) (ρ : List Cell) (s : Shared) (Q : Flow → Shared → Prop) (E : Value → Shared → Prop) (r : RL) (l : Loc) (h : List AO) : Prop := RL.casesOn r (fun fl => SX.K W Φ ρ s Q fl l h) (XK W Φ X ρ s E l h)
noncomputable def RX (W : Wd) (Φ : Fx) (A : Around) (X : String) (t : Sem Flow) (f : RF) : Prop := ∀ loc H r loc' H' ρ s (Q : Flow → Shared → Prop) (E : Value → Shared → Prop), f loc H = some (r, loc', H') → SI W Φ ρ loc H s → RX.K W Φ X ρ s Q E r loc' H' → wpAny W.M A t Q E s
noncomputable def REx.K (W : Wd) (Φ : Fx) (X : String) (ρ : List Cell) (loc : Loc) (s : Shared) (Q : Value → Shared → Prop) (E : Value → Shared → Prop) (r : RV) (h : List AO) : Prop := RV.casesOn r (fun v => SE.K W Φ ρ loc s Q v h) (XK W Φ X ρ s E loc h)
noncomputable def REx (W : Wd) (Φ : Fx) (A : Around) (X : String) (t : Sem Value) (f : RE) : Prop := ∀ loc H r H' ρ s (Q : Value → Shared → Prop) (E : Value → Shared → Prop), f loc H = some (r, H') → SI W Φ ρ loc H s → REx.K W Φ X ρ loc s Q E r H' → wpAny W.M A t Q E s
section
variable {W : Wd} {Φ : Fx} {ρ ρ' : List Cell} {loc : Loc} {H H' : List AO} {s s' : Shared} {A : Around} {X : String}
theorem RX.K.of {Q E r l' a l h H'} (k : RX.K W Φ X ρ s Q E r l' H') (e : (a, l, h) = (r, l', H')) : RX.K W Φ X ρ s Q E a l h := by cases e; exact k
theorem RX.K.ofS {Q E r l' a l h H'} (k : RX.K W Φ X ρ s Q E r l' H') (e : some (a, l, h) = some (r, l', H')) : RX.K W Φ X ρ s Q E a l h := k.of (Option.some.inj e)
theorem REx.K.of {Q E r a h H'} (k : REx.K W Φ X ρ loc s Q E r H') (e : (a, h) = (r, H')) : REx.K W Φ X ρ loc s Q E a h := eq2 k e
noncomputable def okF (f : SF) : RF := fun loc H => (f loc H).map fun p => (.ok p.1, p.2.1, p.2.2)
theorem rx_of {t : Sem Flow} {f : SF} (h : SX W (Φ.at A) t f) : RX W Φ A X t (okF f) := fun loc H r loc' H' ρ s Q E hf S k => omp3 hf fun fl l h' e1 q => h _ _ _ _ _ _ _ _ _ e1 (S.inA A) fun Y s' ρ' t S' r' => k.of q Y s' ρ' t.outA S'.outA r'
noncomputable def rseqF (f g : RF) : RF := fun loc H => (f loc H).bind fun p => RL.casesOn p.1 (seqK (g p.2.1 p.2.2) (some p)) (some p)
theorem rx_nil : RX W Φ A X (execs [] Φ.env) (okF fun loc H => some (.next, loc, H)) := rx_of (Φ := Φ) (A := A) (sx_nil (Φ := Φ.at A))
theorem XK.back {E l h l0 h0} (k : XK W Φ X ρ s E l h) (t : Stp Φ ρ ρ' s s') (S : SI W Φ ρ loc H s) (S' : SI W Φ ρ' l0 h0 s') : XK W Φ X ρ' s' E l h := fun e st s2 ρ2 t2 S2 x2 q2 => k e st s2 ρ2 (t.trans t2) S2 (x2.back S t S') q2
theorem RX.K.back {Q E r l h l0 h0} (k : RX.K W Φ X ρ s Q E r l h) (t : Stp Φ ρ ρ' s s') (S : SI W Φ ρ loc H s) (S' : SI W Φ ρ' l0 h0 s') : RX.K W Φ X ρ' s' Q E r l h :=
 RL.casesOn (motive := fun r => RX.K W Φ X ρ s Q E r l h → RX.K W Φ X ρ' s' Q E r l h) r (fun fl k Y s2 ρ2 t2 S2 r2 => k Y s2 ρ2 (t.trans t2) S2 r2) (fun k => XK.back k t S S') k
theorem rx_cons {st : Stmt} {rest : List Stmt} {f g : RF} (hs : RX W Φ A X (exec st Φ.env) f) (hr : RX W Φ A X (execs rest Φ.env) g) : RX W Φ A X (execs (st :: rest) Φ.env) (rseqF f g) := fun loc H r loc' H' ρ s Q E hf S k => obp3 hf fun a l1 H1 e1 hf => wpAny_execs_cons (hs _ _ _ _ _ _ _ _ _ e1 S (by
 cases a with
 | exc => exact k.ofS hf
 | ok fl => exact fun Y s1 ρ1 t1 S1 r1 => r1.seq hf (fun hf => hr _ _ _ _ _ _ _ _ _ hf S1 (k.back t1 S S1)) fun hf => k.ofS hf _ _ _ t1 S1 r1))
noncomputable def rifF (t : TF) (f g : RF) : RF := fun loc H => (t loc H).bind fun p => if p.1 then f loc p.2 else g loc p.2
theorem rx_if {c : Expr} {a b : List Stmt} {pos : Pos} {t : TF} {f g : RF} (hc : SB W (Φ.at A) c t) (ha : RX W Φ A X (execs a Φ.env) f) (hb : RX W Φ A X (execs b Φ.env) g) : RX W Φ A X (exec (.If c a b pos) Φ.env) (rifF t f g) := fun loc H r loc' H' ρ s Q E hf S k =>
 obp2 hf fun x H1 e1 hf => wpAny_If (hc _ _ _ _ _ _ _ _ e1 (S.inA A) fun s1 ρ1 t1 S1 => by
  have k := k.back t1.outA S S1.outA
  cases x with
  | true => exact ha _ _ _ _ _ _ _ _ _ hf S1.outA k
  | false => exact hb _ _ _ _ _ _ _ _ _ hf S1.outA k)
noncomputable def reIdx (b : Bool) (p q : Nat) : RE := fun loc H => (loc[p]?.join).bind fun a => (loc[q]?.join).bind fun k => k.int?.bind fun k => if 0 ≤ k ∧ small k = true then (listOf? H a).bind fun xs => Option.casesOn xs[k.toNat]? (if b = true then some (.exc, H) else none) fun v => some (.val v, H) else none
theorem idxF_list {a : V} {xs : List V} {k : Int} {v : V} (h : listOf? H a = some xs) (h0 : 0 ≤ k) (hk : small k = true) (e : xs[k.toNat]? = some v) : idxF H a (.int k) = some (v, H) := by
 have hlt : k.toNat < xs.length := (List.getElem?_eq_some_iff.mp e).1
 have ha : at? k xs = some v := by
  unfold at? seqIndex?
  rw [if_neg (Int.not_lt.mpr h0), if_pos (Bool.and_eq_true_iff.mpr ⟨decide_eq_true h0, decide_eq_true (by omega)⟩)]
  exact e
 have e1 : idxL H k a = some (v, H) := by unfold idxL; rw [h]; show (at? k xs).map (·, H) = _; rw [ha]; rfl
 rw [idxF_int hk]
 cases a <;> first | exact e1 | cases h
theorem nm_run {p : Nat} {a : V} (e : loc[p]?.join = some a) : (loc[p]?.join).map (·, H) = some (a, H) := by rw [e]; rfl
theorem re_idx (O : Φ.Ok W) (hA : A.frames = Φ.A.frames) {b : Bool} (hb : b = true → A.handled = none) (p q : Nat) {x y : Str} {kx ky : Option Addr} {p1 p2 pos : Pos} (hn : Φ.names[p]? = some (x, kx)) (hm : Φ.names[q]? = some (y, ky)) (hd : (x == ("__debug__" : Str)) = false) (hd2 : (y == ("__debug__" : Str)) = false)
  (hs : ∀ o i, subscripted (.Name y p2) false o i = operate [o, i] (getItem o i) := by intro _ _; with_unfolding_all rfl) : REx W Φ A "IndexError" (eval (.Subscript (.Name x p1) (.Name y p2) pos) Φ.env) (reIdx b p q) := fun loc H r H' ρ s Q E hf S kk => obp hf fun a e1 hf => obp hf fun c e2 hf => obp hf fun k e5 hf => ifo hf fun hz hf => obp hf fun xs e3 h9 => by
 cases V.int?_is e5
 have hz2 := small_is hz.2
 cases e4 : xs[k.toNat]? with
 | some v =>
  rw [e4] at h9
  exact se_sub (W := W) (Φ := Φ.at A) (se_nameA O A p hn hd) (se_nameA O A q hm hd2) (op_idx hs) _ _ v H _ _ _ _ (by show ((loc[p]?.join).map (·, H)).bind (fun u => ((loc[q]?.join).map (·, u.2)).bind fun w => idxF w.2 u.1 w.1) = _; rw [e1, e2]; exact idxF_list e3 hz.1 hz.2 e4) (S.inA A) fun Y s' ρ' t S' r' => kk.of (Option.some.inj h9) Y s' ρ' t.outA S'.outA r'
 | none =>
  rw [e4] at h9
  refine ifo h9 fun hbb h9 => Subscript_ (se_nameA O A p hn hd _ _ a H _ _ _ _ (nm_run e1) (S.inA A) fun X1 s1 ρ1 t1 S1 v1 => se_nameA O A q hm hd2 _ _ (.int k) H _ _ _ _ (nm_run e2) S1 fun X2 s2 ρ2 t2 S2 v2 => S2.outA.listE e3 (t2.outA.mono v1) fun l vs n eX ho hv => (v2.isInt rfl).elim fun tk eY => ?_)
  subst eX eY
  have hge : xs.length ≤ k.toNat := List.getElem?_eq_none_iff.mp e4
  have hlen := hv.length
  refine tail_any (isList_of ho).typeIs slot_list_getitem.lookup (wpAny_getItem_list_out (hb hbb) (isList_of ho) (.inr (by rw [List.size_toArray]; omega)) (by omega) (by omega) fun h' tk e x => ?_) (hs _ _)
  have z := S2.outA.keptH (tk := tk) x.keeps
  exact kk.of (Option.some.inj h9) e none _ ρ2 ((t1.outA.trans t2.outA).trans z.1) z.2 ((Exc.raised S2.outA x).back S (t1.outA.trans t2.outA) S2.outA) (.inl rfl)
end
end
end
section
section
noncomputable abbrev RTF := Loc → List AO → Option (Option Bool × List AO)
noncomputable def RBx.K (W : Wd) (Φ : Fx) (X : String) (ρ : List Cell) (loc : Loc) (s : Shared) (Q : Bool → Shared → Prop) (E : Value → Shared → Prop) (r : Option Bool) (h : List AO) : Prop := Option.casesOn r (XK W Φ X ρ s E loc h) fun b => SB.K W Φ ρ loc s Q b h
noncomputable def RBx (W : Wd) (Φ : Fx) (A : Around) (X : String) (e : Expr) (f : RTF) : Prop := ∀ loc H r H' ρ s (Q : Bool → Shared → Prop) (E : Value → Shared → Prop), f loc H = some (r, H') → SI W Φ ρ loc H s → RBx.K W Φ X ρ loc s Q E r H' → wpAny W.M A (isTrue e Φ.env (eval e Φ.env)) Q E s
section
variable {W : Wd} {Φ : Fx} {ρ ρ' : List Cell} {loc : Loc} {H H' : List AO} {s s' s0 : Shared} {A : Around} {X : String}
theorem RBx.K.of {Q E r a h H'} (k : RBx.K W Φ X ρ loc s Q E r H') (e : (a, h) = (r, H')) : RBx.K W Φ X ρ loc s Q E a h := eq2 k e
theorem Exc.step {h : Heap} {e : Addr} {st : Option Value} (x : Exc Φ s0 ρ s.heap e X st) (t : Stp Φ ρ ρ' s s') : Exc Φ s0 ρ' s'.heap e X st := by
 have z := x.obj
 cases st with
 | none => exact z.elim fun ob z => z.elim fun vs z => have k := t.keep _ _ z.1 x.nm; ⟨x.new, k.2, ob, vs, k.1, z.2⟩
 | some fl => exact z.elim fun ob z => z.elim fun vs z => z.elim fun tb z => z.elim fun otb z => z.elim fun tvs z => have k := t.keep _ _ z.1 x.nm; have k2 := t.keep _ _ z.2.2.2.2.1 z.2.2.2.2.2.2.2.2.2.2; ⟨x.new, k.2, ob, vs, tb, otb, tvs, k.1, z.2.1, z.2.2.1, z.2.2.2.1, k2.1, z.2.2.2.2.2.1, z.2.2.2.2.2.2.1, z.2.2.2.2.2.2.2.1, z.2.2.2.2.2.2.2.2.1, z.2.2.2.2.2.2.2.2.2.1, k2.2⟩
noncomputable def rsetF (i : Nat) (f : RE) : RF := fun loc H => (f loc H).map fun p => RV.casesOn p.1 (fun v => (.ok .next, loc.set i (some v), p.2)) (.exc, loc, p.2)
theorem rx_assign (O : Φ.Ok W) (i : Nat) {x : Str} {k : Option Addr} {p pos : Pos} {e : Expr} {f : RE} (hn : Φ.names[i]? = some (x, k)) (he : REx W Φ A X (eval e Φ.env) f) (hk : k ≠ none → Φ.env.kindOf x = some .cell)
  (hs : swapsWith e (some (.Name x p)) pos.line Φ.env = pure false) : RX W Φ A X (exec (.Assign [.Name x p] e pos) Φ.env) (rsetF i f) := fun loc H r loc' H' ρ s Q E hf S kk => omp2 hf fun v H1 e1 hf => wpAny_Assign_Name (he _ _ _ _ _ _ _ _ e1 S (by
 cases v with
 | val v => exact fun Y s1 ρ1 t1 S1 v1 => wp_storeA O hn S1 v1 hk fun s2 t2 S2 => kk.of hf _ _ _ (t1.trans t2) S2 trivial
 | exc => exact kk.of hf)) hs
noncomputable def rcmpF (f : RE) (g : EF) (h2 : List AO → V → V → Option (V × List AO)) : RTF := fun loc H => (f loc H).bind fun p => RV.casesOn p.1 (fun a => (g loc p.2).bind fun q => (h2 q.2 a q.1).bind fun c => (truthV c.2 c.1).map fun b => (some b, c.2)) (some (none, p.2))
theorem rb_cmp {l r : Expr} {op : CmpOp} {pos : Pos} {f : RE} {g : EF} {h2} (hl : REx W Φ A X (eval l Φ.env) f) (hr : SE W (Φ.at A) r g) (ho : S2 W (Φ.at A) (compareOp op) h2) (hm : behindInMarks op r = false := by with_unfolding_all rfl) : RBx W Φ A X (.Compare l [op] [r] pos) (rcmpF f g h2) := fun loc H b H' ρ s Q E hf S kk => obp2 hf fun a H1 e1 hf => wpAny_isTrue_Compare1 (hl _ _ _ _ _ _ _ _ e1 S (by
 cases a with
 | exc => exact kk.of (Option.some.inj hf)
 | val a => exact obp2 hf fun b' H2 e2 hf => obp2 hf fun c H3 e3 hf => omp hf fun d e4 hf => fun Y s1 ρ1 t1 S1 v1 => hr _ _ _ _ _ _ _ _ e2 (S1.inA A) fun Z s2 ρ2 t2 S2' v2 => ho _ _ _ _ _ _ _ _ _ _ _ _ e3 S2' (t2.mono v1) v2 fun U s3 ρ3 t3 S3 v3 => wp_truth (Φ := Φ.at A) S3 e4 v3 fun s4 k4 => kk.of hf _ _ (((t1.trans t2.outA).trans t3.outA).trans k4.stp) (S3.kept k4).outA)) hm
noncomputable def rwF (t : RTF) (B : SF) : Nat → RF
 | 0, _, _ => none
 | n + 1, loc, H => (t loc H).bind fun p => Option.casesOn p.1 (some (.exc, loc, p.2)) fun b => Bool.casesOn b (some (.ok .next, loc, p.2)) ((B loc p.2).bind fun q => loopK (rwF t B n q.2.1 q.2.2) (some (.ok .next, q.2.1, q.2.2)) (fun v => some (.ok (.ret v), q.2.1, q.2.2)) q.1)
theorem rx_while (O : Φ.Ok W) (hf : FrOk Φ) (hx : excNf X = true) (hA : A.frames = Φ.A.frames) {test : Expr} {body : List Stmt} {pos : Pos} {t : RTF} {B : SF} (ht : RBx W Φ A X test t) (hB : SX W (Φ.at A) (execs body Φ.env) B) (n : Nat) :
  RX W Φ A X (exec (.While test body [] pos) Φ.env) (rwF t B n) := fun loc H r loc' H' ρ s Q E hff S kk => by
 refine wpAny_While (codeAny_whileLoop (fun n s' => ∃ l h ρ', rwF t B n l h = some (r, loc', H') ∧ Stp Φ ρ ρ' s s' ∧ SI W Φ ρ' l h s') (fun n s' z => ?_) n ⟨loc, H, ρ, hff, .refl, S⟩)
 refine z.elim fun l z => z.elim fun h z => z.elim fun ρ' z => ?_
 have e0 := z.1
 cases n with
 | zero => exact nn e0
 | succ n =>
  refine obp2 e0 fun b h1 e1 e2 => ht _ _ _ _ _ _ _ _ e1 z.2.2 ?_
  cases b with
  | none => exact fun e st s1 ρ1 t1 S1 x1 q1 => exc_up O hf hx hA S (z.2.1.trans t1) S1 (x1.back S z.2.1 z.2.2) q1 fun h2 t2 S2 x2 => kk.ofS e2 e _ _ _ t2 S2 x2 (.inr rfl)
  | some b =>
   intro s1 ρ1 t1 S1
   have t1 := z.2.1.trans t1
   cases b with
   | false => exact wpAny_execs_nil (kk.ofS e2 _ _ _ t1 S1 trivial)
   | true =>
    exact obp3 e2 fun fl l2 h2 e3 e4 => hB _ _ _ _ _ _ _ _ _ e3 (S1.inA A) fun Y s2 ρ2 t2 S2 r2 => by
     have tt := t1.trans t2.outA
     have S2 := S2.outA
     refine r2.loop (Q := fun X => Q X s2) e4 (fun e4 => ⟨n, Nat.lt_succ_self _, l2, h2, ρ2, e4, tt, S2⟩) (fun e4 => kk.ofS e4 _ _ _ tt S2 trivial) fun v X v1 e4 => kk.ofS e4 _ _ _ tt S2 v1
noncomputable def whF (t : TF) (B : SF) : Nat → SF
 | 0, _, _ => none
 | n + 1, loc, H => (t loc H).bind fun p => if p.1 then (B loc p.2).bind fun q => loopK (whF t B n q.2.1 q.2.2) (some (.next, q.2.1, q.2.2)) (fun v => some (.ret v, q.2.1, q.2.2)) q.1 else some (.next, loc, p.2)
theorem sx_while {test : Expr} {body : List Stmt} {pos : Pos} {t : TF} {B : SF} (ht : SB W Φ test t) (hB : SX W Φ (execs body Φ.env) B) (n : Nat) :
  SX W Φ (exec (.While test body [] pos) Φ.env) (whF t B n) := fun loc H r loc' H' ρ s Q E hff S kk => by
 refine wpAny_While (codeAny_whileLoop (fun n s' => ∃ l h ρ', whF t B n l h = some (r, loc', H') ∧ Stp Φ ρ ρ' s s' ∧ SI W Φ ρ' l h s') (fun n s' z => ?_) n ⟨loc, H, ρ, hff, .refl, S⟩)
 refine z.elim fun l z => z.elim fun h z => z.elim fun ρ' z => ?_
 have e0 := z.1
 cases n with
 | zero => exact nn e0
 | succ n =>
  refine obp2 e0 fun b h1 e1 e2 => ht _ _ _ _ _ _ _ _ e1 z.2.2 fun s1 ρ1 t1 S1 => ?_
  have t1 := z.2.1.trans t1
  cases b with
  | false => exact wpAny_execs_nil (kk.ofS e2 _ _ _ t1 S1 trivial)
  | true =>
   exact obp3 e2 fun fl l2 h2 e3 e4 => hB _ _ _ _ _ _ _ _ _ e3 S1 fun Y s2 ρ2 t2 S2 r2 => by
    have tt := t1.trans t2
    refine r2.loop (Q := fun X => Q X s2) e4 (fun e4 => ⟨n, Nat.lt_succ_self _, l2, h2, ρ2, e4, tt, S2⟩) (fun e4 => kk.ofS e4 _ _ _ tt S2 trivial) fun v X v1 e4 => kk.ofS e4 _ _ _ tt S2 v1
noncomputable def tfF (f g : RF) (gm : SF) : RF := fun loc H => (f loc H).bind fun p => RL.casesOn p.1 (fun fl => (g p.2.1 p.2.2).bind fun q => RL.casesOn q.1 (fun f2 => seqK (some (.ok fl, q.2.1, q.2.2)) none f2) (some (.exc, q.2.1, q.2.2)))
 ((gm p.2.1 p.2.2).bind fun q => seqK (some (.exc, q.2.1, q.2.2)) none q.1)
theorem rx_try_finally (O : Φ.Ok W) (hf : FrOk Φ) (hx : excNf X = true) (hA : A.frames = Φ.A.frames) {body : List Stmt} {f₀ : Stmt} {fs : List Stmt} {pos : Pos} {f g : RF} {gm : SF} (hb : RX W Φ A X (execs body Φ.env) f) (hg : RX W Φ A X (execs (f₀ :: fs) Φ.env) g)
  (hm : ∀ e : Addr, SX W (Φ.at (A.mark (some (.ref e)))) (execs (f₀ :: fs) Φ.env) gm) : RX W Φ A X (exec (.Try body [] [] (f₀ :: fs) pos) Φ.env) (tfF f g gm) := fun loc H r loc' H' ρ s Q E hff S kk => obp3 hff fun p l1 h1 e1 hff => wpAny_Try_finally (hb _ _ _ _ _ _ _ _ _ e1 S (by
 cases p with
 | exc =>
  refine obp3 hff fun fl l2 h2 e2 hff => fun e st s1 ρ1 t1 S1 x1 q1 => exc_note O hf hx hA S t1 S1 x1 q1 fun h2' t2 S2 x2 => ⟨ref_ne_byPass _, exc_note O hf hx hA S t2 S2 x2 (.inr rfl) fun h3 t3 S3 x3 => exc_flight hx S t3 S3 x3 none fun h4 t4 S4 x4 => hm e _ _ _ _ _ _ _ _ _ e2 (S4.inA _) fun Y s5 ρ5 t5 S5 r5 => ?_⟩
  refine r5.seq hff (fun hff => ?_) nn
  have x5 := x4.step (s := { s1 with heap := h4 }) (h := h4) t5.outA
  refine x5.obj.elim fun ob z => z.elim fun vs z => z.elim fun tb z => z.elim fun otb z => z.elim fun tvs z => ?_
  unfold PySem.passOn
  refine wpAny_bind (wpAny_field z.1 z.2.2.1 z.2.2.2.1 ?_)
  rw [if_neg (show ¬ ((Value.ref tb == Value.none) = true) from by simp)]
  first | refine wpAny_bind (wpAny_pure ?_) | skip
  rw [hf.fr]
  exact wpAny_bind (exc_flight hx S (t4.trans t5.outA) S5.outA x5 (some Φ.L) fun h6 t6 S6 x6 => wpAny_throw (kk.ofS hff e _ _ _ t6 S6 x6 (.inr rfl)))
 | ok fl =>
  refine obp3 hff fun q l2 h2 e2 hff => fun Y s1 ρ1 t1 S1 r1 => ?_
  have fin : wpAny W.M A (execs (f₀ :: fs) Φ.env) (fun g s' => match g with | .next => Q Y s' | g => Q g s') (notedBy W.M A Φ.env (cameBackBy W.M A Φ.env E)) s1 := hg _ _ _ _ _ _ _ _ _ e2 S1 (by
   cases q with
   | exc => exact fun e st s2 ρ2 t2 S2 x2 q2 => exc_up O hf hx hA S (t1.trans t2) S2 (x2.back S t1 S1) q2 fun h3 t3 S3 x3 => kk.ofS hff e _ _ _ t3 S3 x3 (.inr rfl)
   | ok fl2 => exact fun Z s2 ρ2 t2 S2 r2 => r2.seq hff (fun hff => kk.ofS hff _ _ _ (t1.trans t2) S2 (FR.mono (fun b o z => t2.keep b o z.1 z.2) t2.pre r1)) nn)
  cases Y with
  | next => exact wpAny_execs_nil fin
  | brk => exact fin
  | cont => exact fin
  | ret v => exact fin))
noncomputable def teF (f : RF) (h : SF) : SF := fun loc H => (f loc H).bind fun p => RL.casesOn p.1 (fun fl => some (fl, p.2.1, p.2.2)) (h p.2.1 p.2.2)
theorem sx_try_except (O : Φ.Ok W) (hf : FrOk Φ) (hx : excNf X = true) {body : List Stmt} {T : Str} {Ts : String} {tp : Pos} {b₀ : Stmt} {suite : List Stmt} {hpos pos : Pos} {f : RF} {h : SF}
  (hexc : isSubtype (.type Ts) (.type "BaseException") = pure true) (hnt : isSubtype (.type ((Manifest.find? Ts).elim "type" fun x => x.metatype)) (.type "tuple") = pure false)
  (hsub : isSubtype (.type X) (.type Ts) = pure true) (e0 : nsIn W.K mainGlobals T = some none) (hv : bootBuiltins T = some (.type Ts)) (hnn : T ≠ "__name__") (hxk : Φ.env.kindOf T = some .globalImplicit) (hd : (T == ("__debug__" : Str)) = false)
  (hb : RX W Φ Φ.A X (execs body Φ.env) f) (hh : ∀ e : Addr, SX W (Φ.at (Φ.A.mark (some (.ref e)))) (execs (b₀ :: suite) Φ.env) h) :
  SX W Φ (exec (.Try body [.ExceptHandler (some (.Name T tp)) none (b₀ :: suite) hpos] [] [] pos) Φ.env) (teF f h) := fun loc H r loc' H' ρ s Q E hff S kk => obp3 hff fun p l1 h1 e1 hff => wpAny_Try_except (hb _ _ _ _ _ _ _ _ _ e1 S (by
 cases p with
 | ok fl =>
  intro Y s1 ρ1 t1 S1 r1
  have z := kk.ofS hff Y _ _ t1 S1 r1
  cases Y with
  | next => exact wpAny_execs_nil z
  | brk => exact z
  | cont => exact z
  | ret v => exact z
 | exc =>
  refine fun e st s1 ρ1 t1 S1 x1 q1 => exc_note O hf hx rfl S t1 S1 x1 q1 fun h2' t2 S2 x2 => exc_flight hx S t2 S2 x2 none fun h3 t3 S3 x3 => wpAny_handleBy_builtin (X := X) (T := Ts) (b := true) hexc hnt hsub (S3.mE fun m3 F3 _ => x3.obj.elim fun ob z => z.elim fun vs z => z.elim fun tb z => z.elim fun otb z => z.elim fun tvs z => ge_builtin O O.kind O.glob O.bi e0 hv hnn hxk hd F3.keep ⟨rfl, ⟨ob, z.1, z.2.1⟩, ?_⟩)
  rw [if_pos rfl]
  exact exc_flight hx S t3 S3 x3 none fun h4 t4 S4 x4 => hh e _ _ _ _ _ _ _ _ _ hff (S4.inA _) fun Y s5 ρ5 t5 S5 r5 => kk _ _ _ (t4.trans t5.outA) S5.outA r5))
end
end
end
section
section
noncomputable def FnOkC (W : Wd) (n : Nat) (f : Value) (F : List V → List AO → Option (V × List AO)) : Prop :=
 ∀ Φ : Fx, Φ.Ok W → FrOk Φ → n < Φ.lv → ∀ loc H args v H' Vs ρ s (R : Result → Shared → Prop), F args H = some (v, H') → SI W Φ ρ loc H s → VRs (Φ.P ρ s.heap) ρ args Vs →
  SE.K W Φ ρ loc s (fun X => R (.ok (.ret X))) v H' → codeAny W.M Φ.A (.call f ⟨Vs, []⟩) R s
section
variable {W : Wd} {Φ : Fx} {ρ ρ' : List Cell} {loc : Loc} {H H' : List AO} {s s' s0 : Shared} {A : Around} {X : String}
theorem FnOkC.frz {n : Nat} {f : Value} {F} (h : FnOkC W n f F) : FnOkC W n f (frzG F) := fun Φ O hfr hn loc H args v H' Vs ρ s R hf S hv k => by
 unfold frzG at hf
 refine obp2 hf fun u H1 e1 e2 => ?_
 exact h Φ O hfr hn _ _ _ _ _ _ _ _ _ e1 S hv fun X s1 ρ1 t1 S1 v1 => by
  obtain ⟨t, S2, r⟩ := SI.freeze S t1 S1 v1 e2
  exact k X s1 ρ t S2 r
theorem SI.xd (S : SI W Φ ρ loc H s) (h : FrOk Φ) : ∀ a ∈ Φ.L :: Φ.base.X, a ∈ Φ.L :: Φ.base.F ∧ ∃ o es ep, s.heap.get? a = some o ∧ o.data = .dict es ep := fun a ha => by
 rcases List.mem_cons.mp ha with q | q
 ·subst q
  obtain ⟨m, F, _⟩ := S.m
  obtain ⟨o, es, ep, e, r⟩ := F.ns
  exact ⟨.head _, o, es, ep, e, r.1⟩
 ·obtain ⟨o, o', e1, e2, e3, _⟩ := S.up a q
  obtain ⟨w0, o9, es, ep, w1, w2⟩ := h.xd a q
  rw [e1] at w1; cases w1
  exact ⟨.tail _ w0, o', es, ep, e2, e3.trans w2⟩
theorem FrOk.push (h : FrOk Φ) (fd : FuncData) (f : Addr) (xs : List (Str × Option Nat)) (n : Nat) (A : Around) (g : Heap) (L : Addr) (h0 : Heap) (hxd : ∀ a ∈ Φ.L :: Φ.base.X, a ∈ Φ.L :: Φ.base.F ∧ ∃ o es ep, h0.get? a = some o ∧ o.data = .dict es ep) : FrOk (fx fd f xs n A g L (Φ.push h0) (callEnvC fd L f :: Φ.fr)) where
 hd := ⟨_, rfl⟩
 fr := rfl
 xd := hxd
 all := fun e he => by
  rcases List.mem_cons.mp he with rfl | he
  ·exact .inl rfl
  ·rcases h.all e he with q | ⟨b, hb, q⟩
   ·exact .inr ⟨Φ.L, .head _, q⟩
   ·exact .inr ⟨b, .tail _ hb, q⟩
theorem fn_okC {n : Nat} {f : Addr} {fo : Obj} {fd : FuncData} {body : List Stmt} {xs : List (Str × Option Nat)} {bind : List V → Option (List (Str × V))} {B : SF}
  (ho : W.K.lookup f = some fo) (hd : fo.data = .func fd) (hb : fd.body = .stmts body) (hcl : fd.closure = []) (hgl : fd.globals = mainGlobals) (hbi : fd.builtins = builtinsNs) (hcd : codeIn W.K fd.code fd.qualname = true)
  (hco : fd.scope.isCoroutine = false) (hgen : fd.scope.isGenerator = false) (hk : namesOk fd.scope xs = true) (hbind : Bnd W fd xs bind)
  (hbody : ∀ A g L base fr, (fx fd f xs n A g L base fr).Ok W → FrOk (fx fd f xs n A g L base fr) → SX W (fx fd f xs n A g L base fr) (execs body (callEnvC fd L f)) B) :
  FnOkC W n (.ref f) (bodyF xs bind B) := fun Φ O hfr hn loc H args v H' Vs ρ s R hf S hv k => by
 unfold bodyF at hf
 refine obp hf fun ab e1 hf => ?_
 refine obp3 hf fun fl loc' H1 e2 hf => ?_
 obtain ⟨m, F, l⟩ := S.m
 have KI : W.K.In s.heap := O.K.keeps F.keep
 obtain ⟨bs, hbs, hb1⟩ := hbind.binds _ _ e1 _ _ _ _ KI hv
 obtain ⟨hkf, hall, hnd⟩ := nameOk_of hk
 refine codeAny_call_function (by have := O.depth; omega) (KI _ _ ho) hd hco hgen hb (codeRec_of KI hcd) (hbs _ _ _ _ ?_)
 rw [hcl, hgl, hbi]
 refine wpAny_newFunctionEnv_cells hkf (fun y hy => ?_) fun env he s' x => ?_
 ·have hm : y.1 ∈ xs.map (·.1) := hbind.names _ _ e1 _ (by rw [← hb1.names]; exact List.mem_map_of_mem hy)
  obtain ⟨⟨z, k⟩, hz, e⟩ := List.mem_map.mp hm
  have e : z = y.1 := e
  cases k with
  | none => exact .inl (e ▸ nameOk_local (hall _ hz))
  | some k =>
   have q := nameOk_cell (hall _ hz)
   refine .inr ⟨e ▸ q.1, ?_⟩
   rw [← e, cellsFrom_at q.2.1]; rfl
 ·have he : env = callEnvC fd s.heap.objs.size f := by rw [he]; unfold callEnvC; rw [hgl, hbi]
  subst he
  obtain ⟨O', S', kp⟩ := SI.enter O S hn hk hgl hbi hb1 x
  refine ⟨(O.T.nolimit.keeps F.keep).keeps kp.k, codeAny_func ?_⟩
  refine hbody _ _ _ _ _ O' (hfr.push _ _ _ _ _ _ _ _ (S.xd hfr)) _ _ _ _ _ _ _ _ _ e2 S' fun X s2 ρ2 t2 S2 r2 => ?_
  obtain ⟨stp, S3, pm⟩ := SI.leave S kp (Nat.le_refl _) (fun c hc => by
   obtain ⟨y, q, _, rfl⟩ := cellsAt_mem hc
   show s.heap.objs.size ≤ s.heap.objs.size + 1 + q
   omega) rfl rfl rfl t2 S2
  exact r2.body hf (fun v e => k _ _ _ stp (e ▸ S3) (v.monoF pm fun _ _ h => h)) fun X v e => k _ _ _ stp (e ▸ S3) (v.monoF pm fun _ _ h => h)
theorem se_callC {func : Expr} {es : List Expr} {pos : Pos} {f : Value} {g : LF} {F} {n : Nat} (O : Φ.Ok W) (hfr : FrOk Φ) (hn : n < Φ.lv) (hf : SN W Φ func f) (hk : KeepOk W f) (ha : SL W Φ pos es g) (hc : FnOkC W n f F) (hp : Plain Φ.env pos es)
  (he : eval (.Call func es [] pos) Φ.env = (do callWith pos (← eval func Φ.env) [] (backTo pos (starEach es Φ.env)) (backToKw pos (keywordEach [] Φ.env)))) : SE W Φ (.Call func es [] pos) (callF g F) := fun loc H v H' ρ s Q E hff S k => by
 unfold callF at hff
 refine obp2 hff fun vs H1 e1 e2 => ?_
 exact Call_ (hf _ _ _ _ _ _ S (wp_args O hk ha hp e1 S fun Xs s1 ρ1 t1 S1 v1 => wpAny_call (hc Φ O hfr hn _ _ _ _ _ _ _ _ _ e2 S1 v1 fun X s2 ρ2 t2 S2' v2 => k X s2 ρ2 (t1.trans t2) S2' v2))) he
noncomputable def set2F (i j : Nat) (f : EF) : SF := fun loc H => (f loc H).map fun p => (.next, (loc.set i (some p.1)).set j (some p.1), p.2)
theorem sx_assign2 (O : Φ.Ok W) (i j : Nat) {x y : Str} {kx ky : Option Addr} {p1 p2 pos : Pos} {e : Expr} {f : EF} (hn : Φ.names[i]? = some (x, kx)) (hm : Φ.names[j]? = some (y, ky)) (he : SE W Φ e f) (hk : kx ≠ none → Φ.env.kindOf x = some .cell) (hk2 : ky ≠ none → Φ.env.kindOf y = some .cell)
  (ha : (assignEach [.Name x p1, .Name y p2] Φ.env).map (·.2) = [assign (.Name x p1) Φ.env, assign (.Name y p2) Φ.env] := by rfl)
  (hs : swapsWithSole [.Name x p1, .Name y p2] e pos.line Φ.env = pure false := by rfl) (hw : swappedStores [.Name x p1, .Name y p2] e Φ.env = pure none := by rfl) : SX W Φ (exec (.Assign [.Name x p1, .Name y p2] e pos) Φ.env) (set2F i j f) := fun loc H r loc' H' ρ s Q E hf S k => by
 unfold set2F at hf
 refine omp2 hf fun v H1 e1 hf => ?_
 replace k := k.of hf
 refine wpAny_Assign_stores (he _ _ _ _ _ _ _ _ e1 S fun X s1 ρ1 t1 S1 v1 => ?_) hs hw
 rw [ha]
 exact wpAny_bind (wpAny_holding (wpAny_assign_Name (wp_store O hn S1 v1 hk fun s2 t2 S2 => wpAny_assign_Name (wp_store O hm S2 (t2.mono v1) hk2 fun s3 t3 S3 => k .next _ _ ((t1.trans t2).trans t3) S3 trivial))))
noncomputable def extF (i : Nat) (f : EF) : EF := fun loc H => (loc[i]?.join).bind fun v => (f loc H).bind fun p => match v with
 | .ref c => (listOf? H (.ref c)).bind fun _ => match p.2[c]? with
  | some (.list ys) => (listOf? p.2 p.1).bind fun zs => if ys.length + zs.length ≤ 1000 then some (.none, p.2.set c (.list (ys ++ zs))) else none
  | _ => none
 | _ => none
theorem se_extend (O : Φ.Ok W) (A : Around) (i : Nat) {x : Str} {k : Option Addr} {p1 ap pos : Pos} {arg : Expr} {f : EF} (hn : Φ.names[i]? = some (x, k)) (hd : (x == ("__debug__" : Str)) = false) (ha : SE W (Φ.at A) arg f) {pl : Sem Bool}
  (hp1 : starEach (arg :: []) Φ.env = (false, eval arg Φ.env) :: starEach [] Φ.env)
  (he : eval (.Call (.Attribute (.Name x p1) "extend" ap) [arg] [] pos) Φ.env = (do
   let ov ← eval (.Name x p1) Φ.env
   standAt ap.atName
   let (f, first) ← holding [ov] (getMethod ov "extend" pl)
   callWith pos f first (backTo pos (starEach [arg] Φ.env)) [])) : SE W (Φ.at A) (.Call (.Attribute (.Name x p1) "extend" ap) [arg] [] pos) (extF i f) := fun loc H v H' ρ s Q E hf S kq => by
 unfold extF at hf
 refine obp hf fun a e0 hf => ?_
 refine obp2 hf fun b H1 e1 hf => ?_
 cases a with
 | ref c =>
  dsimp only at hf
  refine obp hf fun xs0 hc0 hf => ?_
  split at hf
  ·rename_i ys hy
   refine obp hf fun zs e2 hf => ?_
   split at hf
   ·rename_i hz
    cases hf
    refine MethodCall_ (se_nameA O A i hn hd _ _ (.ref c) H _ _ _ _ (by simp only [e0, Option.map_some]) S fun X1 s1 ρ1 t1 S1 v1 => ?_) he
    obtain ⟨l, vs, n, rfl, ho, hv⟩ := S1.list hc0 v1
    refine getMethod_list_of PySem.F.slot_list_extend PySem.F.type_list_extend (isList_of ho) ⟨_, ho, rfl⟩ ?_
    refine callWith_method1 (args_cons (ha _ _ _ _ _ _ _ _ e1 S1 fun X2 s2 ρ2 t2 S2 v2 => args_nil ?_) hp1) hp1
    cases v1 with
    | ref hi1 =>
    rename_i cc
    have hi2 := t2.pre _ _ hi1
    obtain ⟨n1, ws, n', ho', hw⟩ := S2.hp.2 _ _ _ hi2 hy
    obtain ⟨b2, us, n2, rfl, ho2, hu⟩ := S2.list e2 v2
    have h1 := hw.length
    have h2 := hu.length
    refine call_meets PySem.F.slot_list_extend ⟨_, ho', rfl⟩ PySem.F.entry_list_extend (PySem.F.args_list_extend_2 _ _) (AutoSeq1.list_extend_list_list_0 _ ws.toArray n' b2 us.toArray n2 (extend_door (by simp only [List.size_toArray]; rw [sizeLine_eq]; omega)) (by simp only [List.size_toArray]; rw [sizeLine_eq]; omega) (by simp only [List.size_toArray]; rw [sizeLine_eq]; omega)) ⟨ho', ho2, ?_⟩
    have hsb : Heap.SameBut cc.1 s2.heap (s2.heap.update cc.1 (Obj.mapSeq fun x => x ++ us.toArray)) := Heap.SameBut.update ..
    have hg := Heap.get?_update_self (Obj.mapSeq fun x => x ++ us.toArray) ho' rfl
    have e9 : ws.toArray ++ us.toArray = (ws ++ us).toArray := by simp
    have hg2 : ∃ n9, (s2.heap.update cc.1 (Obj.mapSeq fun x => x ++ us.toArray)).get? cc.1 = some (lstO (ws ++ us) n9) := ⟨_, by rw [hg]; show some (Obj.mk _ _ (.seq (ws.toArray ++ us.toArray) _) _) = _; rw [e9]⟩
    obtain ⟨n9, hg2⟩ := hg2
    have aM := mem_M_mut (Φ := Φ) (mem_mutA hi2 (.head _))
    have pm : ∀ b o, Φ.P ρ2 s2.heap b o → Φ.P ρ2 (s2.heap.update cc.1 (Obj.mapSeq fun x => x ++ us.toArray)) b o := fun b o z => SI.mono_but aM hsb.extBut z
    obtain ⟨S6, t6⟩ := S2.outA.upd (o' := .list (ys ++ zs)) (tk := s2.toks) hi2 (.head _) hsb (seq_nofields ho' rfl) ⟨n1, _, _, hg2, (hw.mono pm fun _ _ h => h).append (hu.mono pm fun _ _ h => h)⟩
    exact kq _ _ _ ((t1.trans t2).trans (t6.inA A)) (S6.inA A) .none
   ·cases hf
  ·cases hf
 | _ => cases hf
end
end
end
section
section
section
variable {w : World} {p : Program} {loose : List Str} {mean : ExcName → Option Value} {mg mb : Str → Option Value}
noncomputable abbrev n189 : List (Str × Option Nat) := [("expected", none), ("actual", none), ("i", none), ("j", none), ("missing", none), ("unexpected", none), ("e", none), ("a", none)]
theorem bootIndexError : bootBuiltins "IndexError" = some (.type "IndexError") := by kernel_rfl
end
end
end
section
section
open PySem.AutoSeq1 (wpAny_loadPart')
open PySem.MeetsSeq
noncomputable def EqAt (h : Heap) (y x : Value) (b : Bool) : Prop := ∀ (prog : Program) (w : World) (A : Around) (E : Value → Shared → Prop) (s : Shared) (Q : Bool → Shared → Prop), s.heap = h → A.units + 64 < cLine → Q b s → wpAny (model prog w) A (eqBool y x) Q E s
theorem remove_loopT (l : Addr) (items : Array Value) (n : Nat) (x : Value) (e : Value → Bool) (j : Nat) (hj : j < items.size) (hit : e items[j] = true) (k : Nat) (hs1 : items.size ≤ sizeLine) :
  ∀ i : Nat, j - i = k → i ≤ j → (∀ m (hm : m < items.size), i ≤ m → m < j → e items[m] = false) → Meets (Builtin.«list.remove.loop» ⟨[.ref l, x, rawInt i], []⟩)
   (fun A R s => A.in1.units + 64 < cLine ∧ (∀ y, y ∈ items → EqAt s.heap y x (e y)) ∧ s.heap.get? l = some { cls := .type "list", dict := none, data := .seq items n, slots := #[] } ∧ R (.ok (.ret .none)) { s with heap := s.heap.update l (Obj.mapSeq fun xs => xs.eraseIdxIfInBounds j) }) := by
 induction k with
 | zero =>
  intro i hk hij hno prog w A R s h
  obtain ⟨hp, g, d, tk, os⟩ := s; obtain ⟨hu, he, hl, h⟩ := h
  have hij' : i = j := by omega
  subst hij'
  wp_walk using wpAny_loadPart' hl
  have hi : items[((i : Nat) : Int).toNat]? = some items[i] := by simp [hj]
  rw [hi]
  refine wpAny_bind (he _ (Array.getElem_mem hj) prog w _ _ _ _ rfl hu ?_)
  rw [hit]
  have hz' : (items.eraseIdxIfInBounds i).size ≤ sizeLine + 1 := Nat.le_trans (size_erased items _) (Nat.le_succ_of_le hs1)
  wp_walk using (wpAny_updateSeq hl rfl (hz := hs1) (_hz' := hz')), wpAny_loadPart' hl
  simpa using h
 | succ k ih =>
  intro i hk hij hno prog w A R s h
  obtain ⟨hp, g, d, tk, os⟩ := s; obtain ⟨hu, he, hl, h⟩ := h
  have hlt : i < items.size := by omega
  wp_walk using wpAny_loadPart' hl
  have hi : items[((i : Nat) : Int).toNat]? = some items[i] := by simp [hlt]
  have hc : ((i : Int) + 1) = ((i + 1 : Nat) : Int) := by push_cast; rfl
  rw [hi]
  refine wpAny_bind (he _ (Array.getElem_mem hlt) prog w _ _ _ _ rfl hu ?_)
  rw [hno i hlt (Nat.le_refl _) (by omega)]
  wp_walk
  rw [hc]
  exact ⟨plainId_quiet plain_remove_loop _, codeAny_builtin entry_remove_loop (by
   rw [Around.under_plainId plain_remove_loop _]
   exact ih (i + 1) (by omega) (by omega) (fun m hm h1 h2 => hno m hm (by omega) h2) prog w A R _ ⟨hu, he, hl, h⟩)⟩
theorem list_removeT (l : Addr) (items : Array Value) (n : Nat) (x : Value) (e : Value → Bool) (j : Nat) (hj : j < items.size)
  (hit : e items[j] = true) (hno : ∀ m (hm : m < items.size), m < j → e items[m] = false) (hs1 : items.size ≤ sizeLine) :
  Meets (Builtin.«list.remove» ⟨[.ref l, x], []⟩)
   (fun A R s => A.in1.units + 64 < cLine ∧ (∀ y, y ∈ items → EqAt s.heap y x (e y)) ∧ s.heap.get? l = some { cls := .type "list", dict := none, data := .seq items n, slots := #[] } ∧ R (.ok (.ret .none)) { s with heap := s.heap.update l (Obj.mapSeq fun xs => xs.eraseIdxIfInBounds j) }) := by
 intro prog w A R s h
 obtain ⟨hp, g, d, tk, os⟩ := s; obtain ⟨hu, he, hl, h⟩ := h
 wp_walk using wpAny_loadPart' hl
 exact ⟨plainId_quiet plain_remove_loop _, codeAny_builtin entry_remove_loop (by
  rw [Around.under_plainId plain_remove_loop _]
  exact remove_loopT l items n x e j hj hit _ hs1 0 rfl (Nat.zero_le _) (fun m hm _ h2 => hno m hm h2) prog w A R _ ⟨hu, he, hl, h⟩)⟩
theorem remove_loop_noneT (l : Addr) (items : Array Value) (n : Nat) (x : Value) (e : Value → Bool) (hno : ∀ m (hm : m < items.size), e items[m] = false) (k : Nat) :
  ∀ i : Nat, items.size - i = k → Meets (Builtin.«list.remove.loop» ⟨[.ref l, x, rawInt i], []⟩)
   (fun A R s => A.in1.units + 64 < cLine ∧ (∀ y, y ∈ items → EqAt s.heap y x (e y)) ∧ s.heap.get? l = some { cls := .type "list", dict := none, data := .seq items n, slots := #[] } ∧ raisesNew "ValueError" A R s) := by
 induction k with
 | zero =>
  intro i hk prog w A R s h
  obtain ⟨hp, g, d, tk, os⟩ := s; obtain ⟨hu, he, hl, h⟩ := h
  wp_walk using wpAny_loadPart' hl
  have hi : items[((i : Nat) : Int).toNat]? = none := by simp; omega
  rw [hi]
  wp_walk
  exact_raiseError plainExc_ValueError h.1 h.2
 | succ k ih =>
  intro i hk prog w A R s h
  obtain ⟨hp, g, d, tk, os⟩ := s; obtain ⟨hu, he, hl, h⟩ := h
  have hlt : i < items.size := by omega
  wp_walk using wpAny_loadPart' hl
  have hi : items[((i : Nat) : Int).toNat]? = some items[i] := by simp [hlt]
  have hc : ((i : Int) + 1) = ((i + 1 : Nat) : Int) := by push_cast; rfl
  rw [hi]
  refine wpAny_bind (he _ (Array.getElem_mem hlt) prog w _ _ _ _ rfl hu ?_)
  rw [hno i hlt]
  wp_walk
  rw [hc]
  exact ⟨plainId_quiet plain_remove_loop _, codeAny_builtin entry_remove_loop (by
   rw [Around.under_plainId plain_remove_loop _]
   exact ih (i + 1) (by omega) prog w A R _ ⟨hu, he, hl, h⟩)⟩
theorem list_remove_noneT (l : Addr) (items : Array Value) (n : Nat) (x : Value) (e : Value → Bool) (hno : ∀ m (hm : m < items.size), e items[m] = false) :
  Meets (Builtin.«list.remove» ⟨[.ref l, x], []⟩)
   (fun A R s => A.in1.units + 64 < cLine ∧ (∀ y, y ∈ items → EqAt s.heap y x (e y)) ∧ s.heap.get? l = some { cls := .type "list", dict := none, data := .seq items n, slots := #[] } ∧ raisesNew "ValueError" A R s) := by
 intro prog w A R s h
 obtain ⟨hp, g, d, tk, os⟩ := s; obtain ⟨hu, he, hl, h⟩ := h
 wp_walk using wpAny_loadPart' hl
 exact ⟨plainId_quiet plain_remove_loop _, codeAny_builtin entry_remove_loop (by
  rw [Around.under_plainId plain_remove_loop _]
  exact remove_loop_noneT l items n x e hno _ 0 rfl prog w A R _ ⟨hu, he, hl, h⟩)⟩
noncomputable def pairO (o : Option Obj) : Option (Str × Str) := match o with
 | some o => match o.data with
  | .seq vs _ => match vs.toList with
   | [.str a _, .str b _] => some (a, b)
   | _ => none
  | _ => none
 | none => none
noncomputable def pairAt (h : Heap) (y : Value) : Option (Str × Str) := match y with
 | .ref a => pairO (h.get? a)
 | _ => none
theorem PairR.at {P : Addr → Obj → Prop} {h : Heap} (hp : ∀ a o, P a o → h.get? a = some o) {p : Str × Str} {v : Value} (r : PairR P p v) : pairAt h v = some p := r.elim fun a z => z.elim fun t z => z.elim fun u z => by
 rw [z.1]
 show pairO (h.get? a) = _
 rw [hp _ _ z.2]
 rfl
theorem eqAt_pairs {h : Heap} {a b : Addr} {x y u v : Str} {t1 t2 t3 t4 : Tok} (ha : h.get? a = some (tupO [.str x t1, .str y t2])) (hb : h.get? b = some (tupO [.str u t3, .str v t4])) (ok : (PyData.canLay0 (.str x) && PyData.canLay0 (.str y) && PyData.canLay0 (.str u) && PyData.canLay0 (.str v)) = true) :
  EqAt h (.ref a) (.ref b) (x == u && y == v) := fun prog w A E s Q hs hu hq => by
 subst hs
 simp only [Bool.and_eq_true] at ok
 have r1 : Reads s.heap (.ref a) (.tuple [.str x, .str y]) _ := .tuple ha rfl rfl (.cons (.str _ _) (.cons (.str _ _) .nil))
 have r2 : Reads s.heap (.ref b) (.tuple [.str u, .str v]) _ := .tuple hb rfl rfl (.cons (.str _ _) (.cons (.str _ _) .nil))
 refine PySem.SeqAt.eqBoolOverData prog w A E s _ _ _ _ _ _ Q r1 r2 ?_ ?_ ?_ ?_
 ·simp [PyData.canLay0, PyData.canLayAll0] at ok ⊢; exact ⟨ok.1.1.1, ok.1.1.2⟩
 ·simp [PyData.canLay0, PyData.canLayAll0] at ok ⊢; exact ⟨ok.1.2, ok.2⟩
 ·have : PyData.depth (.tuple [.str x, .str y]) = 1 := by simp [PyData.depth, PyData.depthAll]
  rw [this]
  have h2 : min 1 (PyData.depth (.tuple [.str u, .str v])) ≤ 1 := Nat.min_le_left _ _
  omega
 ·have : PyData.eqv (.tuple [.str x, .str y]) (.tuple [.str u, .str v]) = (x == u && y == v) := by simp [PyData.eqv, PyData.eqvAll]
  rw [this]; exact hq
end
end
section
section
section
variable {loc : Loc} {H H' : List AO}
theorem allM_id {f : V → Option V} (xs : List V) : (∀ x ∈ xs, f x = some x) → allM f xs = some xs :=
 List.rec (motive := fun xs => (∀ x ∈ xs, f x = some x) → allM f xs = some xs) (fun _ => rfl) (fun x xs ih h => bind_of (h x (.head _)) (by show (allM f xs).map (x :: ·) = _; rw [ih fun y hy => h y (.tail _ hy)]; rfl)) xs
theorem low_frz {n : Nat} {G : List AO} (k : Nat) : ∀ {v : V}, lowV 0 k v = true → frzV n G k v = some v := by
 induction k with
 | zero => exact nf
 | succ k ih =>
  have all : ∀ xs : List V, xs.all (lowV 0 k) = true → allM (frzV n G k) xs = some xs := fun xs e => allM_id xs fun x hx => ih (List.all_eq_true.mp e x hx)
  exact fun {v} => V.casesOn (motive_1 := fun v => lowV 0 (k + 1) v = true → frzV n G (k + 1) v = some v) v (fun _ => rfl) (fun _ _ => rfl) (fun _ _ => rfl) (fun _ _ => rfl) (fun xs e => congrArg (Option.map V.tup) (all xs e)) (fun xs e => congrArg (Option.map V.lst) (all xs e)) (fun i e => absurd (of_decide_eq_true (p := i < 0) e) (Nat.not_lt_zero i)) (fun _ _ _ => rfl) (fun _ _ => rfl) fun _ _ => rfl
theorem end_at {o : AO} : (H ++ [o])[H.length]? = some o := List.getElem?_concat_length
theorem appendTo_end {x : V} {ys : List V} (h : ys.length ≤ 1000) : appendTo H.length x (H ++ [.list ys]) = some (H ++ [.list (ys ++ [x])]) := by
 unfold appendTo
 rw [end_at]
 refine (if_pos h).trans ?_
 rw [List.set_append_right _ _ (Nat.le_refl _), Nat.sub_self]
 rfl
theorem frz_end {zs : List V} (hc : ∀ z ∈ zs, lowV 0 7 z = true) (hH : H.all (lowO H.length) = true) : frz H.length (.ref H.length) (H ++ [.list zs]) = some (.lst zs, H) := by
 have e2 : frzV H.length (H ++ [AO.list zs]) 8 (.ref H.length) = some (.lst zs) := by
  show (if H.length < H.length then some (V.ref H.length) else listAt (fun xs => (allM (frzV H.length (H ++ [AO.list zs]) 7) xs).map .lst) (H ++ [AO.list zs])[H.length]?) = _
  rw [if_neg (Nat.lt_irrefl _), end_at]
  exact congrArg (Option.map V.lst) (allM_id zs fun z hz => low_frz 7 (hc z hz))
 unfold frz
 rw [List.take_left, if_pos hH, e2]
 rfl
section
variable {α : Type} {tf : GF} {tests : TF} {em : MF} {Pq : Loc → Prop} {Py : List V → Prop}
theorem compL_run (fv : α → V) (out : α → List V) (l : List α) : ∀ (ys : List V) (q : Loc), Pq q → Py ys → (∀ x ∈ l, ∀ q ys, Pq q → Py ys → ys.length + (out x).length ≤ 1000 → Py (ys ++ out x) ∧ ∃ q', Pq q' ∧ stepC tf tests em (fv x) q (H ++ [.list ys]) = some (q', H ++ [.list (ys ++ out x)])) →
  ys.length + (l.flatMap out).length ≤ 1000 → ∃ q', Pq q' ∧ compL tf tests em (l.map fv) q (H ++ [.list ys]) = some (q', H ++ [.list (ys ++ l.flatMap out)]) := by
 induction l with
 | nil => exact fun ys q hq _ _ _ => ⟨q, hq, by rw [List.flatMap_nil, List.append_nil]; rfl⟩
 | cons x l ih =>
  intro ys q hq hy h hl
  rw [List.flatMap_cons, List.length_append] at hl
  have z := h x (.head _) q ys hq hy (by omega)
  refine z.2.elim fun q' y => (ih (ys ++ out x) q' y.1 z.1 (fun y hy => h y (.tail _ hy)) (by rw [List.length_append]; omega)).imp fun q2 w => ⟨w.1, bind_of y.2 ?_⟩
  rw [List.flatMap_cons, ← List.append_assoc]
  exact w.2
theorem step_run {l : Loc} {b : Bool} {x : V} {q : Loc} {h h1 : List AO} {r} (e1 : tf x q = some l) (e2 : tests l h = some (b, h1)) (e3 : (if b then em l h1 else some (l, h1)) = r) : stepC tf tests em x q h = r := bind_of e1 (bind_of e2 e3)
theorem emit_run {f : EF} {l : Loc} {ys : List V} {v : V} (e : f l (H ++ [.list ys]) = some (v, H ++ [.list ys])) (h : ys.length ≤ 1000) : emitF H.length f l (H ++ [.list ys]) = some (l, H ++ [.list (ys ++ [v])]) := bind_of e (by show (appendTo H.length v (H ++ [.list ys])).map _ = _; rw [appendTo_end h]; rfl)
theorem comp_fin {qf : QF} {em : Nat → MF} {ns : List Str} {cs : List Nat} {xs zs : List V} (hq : qf loc H = some (xs, H)) (e : ∃ q', Pq q' ∧ compL tf tests (em H.length) xs (cLoc loc ns cs) (H ++ [.list []]) = some (q', H ++ [.list ([] ++ zs)])) (hc : ∀ z ∈ zs, lowV 0 7 z = true) (hH : H.all (lowO H.length) = true) :
  compF true qf tf tests em ns cs loc H = some (.lst zs, H) := e.elim fun q' e => by
 have r : rawC qf tf tests em ns cs loc H = some (.ref H.length, H ++ [.list zs]) := bind_of hq (congrArg (Option.map fun r => (V.ref H.length, r.2)) e.2)
 exact bind_of r (frz_end hc hH)
theorem flat_ite (p : α → Bool) (g : α → V) (l : List α) : l.flatMap (fun x => if p x then [g x] else []) = (l.filter p).map g := by
 induction l with
 | nil => rfl
 | cons x l ih => cases hp : p x <;> simp [hp, ih]
theorem compM_run {f : EF} {cap : Loc} (fv : α → V) (p : α → Bool) (g : α → V) (l : List α) (ys : List V) (l0 : Option V) (hy : ∀ y ∈ ys, lowV 0 7 y = true)
  (ht : ∀ x ∈ l, ∀ ys, (∀ y ∈ ys, lowV 0 7 y = true) → tests (some (fv x) :: cap) (H ++ [.list ys]) = some (p x, H ++ [.list ys]))
  (hf : ∀ x ∈ l, p x = true → ∀ ys, (∀ y ∈ ys, lowV 0 7 y = true) → f (some (fv x) :: cap) (H ++ [.list ys]) = some (g x, H ++ [.list ys])) (hc : ∀ x ∈ l, p x = true → lowV 0 7 (g x) = true) (hl : ys.length + l.length ≤ 1000) :
  ∃ q', (∃ l1, q' = l1 :: cap) ∧ compL (fun v loc => some (loc.set 0 (some v))) tests (emitF H.length f) (l.map fv) (l0 :: cap) (H ++ [.list ys]) = some (q', H ++ [.list (ys ++ (l.filter p).map g)]) := by
 rw [← flat_ite p g l]
 refine compL_run (Pq := fun q => ∃ l1, q = l1 :: cap) (Py := fun ys => ∀ y ∈ ys, lowV 0 7 y = true) fv (fun x => if p x then [g x] else []) l ys _ ⟨_, rfl⟩ hy (fun x hx q ys hq hy hn => ?_) (Nat.le_trans (Nat.add_le_add_left ?_ _) hl)
 ·refine hq.elim fun l1 e => ?_
  subst e
  have e2 := ht x hx ys hy
  show (∀ y ∈ ys ++ (if p x then [g x] else []), _) ∧ ∃ q', _ ∧ stepC _ _ _ _ _ _ = some (q', H ++ [.list (ys ++ if p x then [g x] else [])])
  by_cases hp : p x = true
  ·rw [if_pos hp]
   rw [hp] at e2
   exact ⟨fun y h => (List.mem_append.mp h).elim (hy y) fun h => List.mem_singleton.mp h ▸ hc x hx hp, _, ⟨_, rfl⟩, step_run rfl e2 (emit_run (hf x hx hp ys hy) (Nat.le_trans (Nat.le_add_right _ _) hn))⟩
  ·rw [if_neg hp, List.append_nil]
   rw [Bool.eq_false_iff.mpr hp] at e2
   exact ⟨hy, _, ⟨_, rfl⟩, step_run rfl e2 rfl⟩
 ·rw [flat_ite, List.length_map]
  exact List.length_filter_le _ _
end
section
variable {α : Type}
theorem compM {qf : QF} {tests : TF} {f : EF} {y : Str} {cs : List Nat} {l : List α} (fv : α → V) (p : α → Bool) (g : α → V) (hq : qf loc H = some (l.map fv, H))
  (ht : ∀ x ∈ l, ∀ ys, (∀ y ∈ ys, lowV 0 7 y = true) → tests (some (fv x) :: cs.map fun i => loc.getD i none) (H ++ [.list ys]) = some (p x, H ++ [.list ys]))
  (hf : ∀ x ∈ l, p x = true → ∀ ys, (∀ y ∈ ys, lowV 0 7 y = true) → f (some (fv x) :: cs.map fun i => loc.getD i none) (H ++ [.list ys]) = some (g x, H ++ [.list ys]))
  (hc : ∀ x ∈ l, p x = true → lowV 0 7 (g x) = true) (hl : l.length ≤ 1000) (hH : H.all (lowO H.length) = true) :
  compF true qf (fun v loc => some (loc.set 0 (some v))) tests (fun i => emitF i f) [y] cs loc H = some (.lst ((l.filter p).map g), H) :=
 comp_fin hq (compM_run fv p g l [] none (fun y h => nomatch h) ht hf hc ((Nat.zero_add _).symm ▸ hl)) (fun v hv => (List.mem_map.mp hv).elim fun x z => z.2 ▸ hc x (List.mem_filter.mp z.1).1 (List.mem_filter.mp z.1).2) hH
theorem compT {qf : QF} {f : EF} {y : Str} {cs : List Nat} {l : List α} (fv : α → V) (g : α → V) (hq : qf loc H = some (l.map fv, H))
  (hf : ∀ x ∈ l, ∀ ys, (∀ y ∈ ys, lowV 0 7 y = true) → f (some (fv x) :: cs.map fun i => loc.getD i none) (H ++ [.list ys]) = some (g x, H ++ [.list ys]))
  (hc : ∀ x ∈ l, lowV 0 7 (g x) = true) (hl : l.length ≤ 1000) (hH : H.all (lowO H.length) = true) :
  compF true qf (fun v loc => some (loc.set 0 (some v))) (fun _ H => some (true, H)) (fun i => emitF i f) [y] cs loc H = some (.lst (l.map g), H) := by
 refine (compM fv (fun _ => true) g hq (fun _ _ _ _ => rfl) (fun x h _ => hf x h) (fun x h _ => hc x h) hl hH).trans ?_
 rw [List.filter_eq_self.mpr fun _ _ => rfl]
theorem comp1 {qf : QF} {tests : TF} {f : EF} {y : Str} {cs : List Nat} {xs : List V} (p : V → Bool) (g : V → V) (hq : qf loc H = some (xs, H))
  (ht : ∀ x ∈ xs, ∀ ys, tests (some x :: cs.map fun i => loc.getD i none) (H ++ [.list ys]) = some (p x, H ++ [.list ys]))
  (hf : ∀ x ∈ xs, p x = true → ∀ ys, f (some x :: cs.map fun i => loc.getD i none) (H ++ [.list ys]) = some (g x, H ++ [.list ys]))
  (hc : ∀ x ∈ xs, p x = true → lowV 0 7 (g x) = true) (hl : xs.length ≤ 1000) (hH : H.all (lowO H.length) = true) :
  compF true qf (fun v loc => some (loc.set 0 (some v))) tests (fun i => emitF i f) [y] cs loc H = some (.lst ((xs.filter p).map g), H) := compM id p g (hq.trans (by rw [List.map_id])) (fun x hx ys _ => ht x hx ys) (fun x hx h ys _ => hf x hx h ys) hc hl hH
theorem comp2M {qf q2 : QF} {f : EF} {y0 y1 : Str} {cs : List Nat} {l : List α} (fv : α → V) (zs : α → List V) (g : α → V → V) (hq : qf loc H = some (l.map fv, H))
  (hq2 : ∀ x ∈ l, ∀ l1 ys, q2 (some (fv x) :: l1 :: cs.map fun i => loc.getD i none) (H ++ [.list ys]) = some (zs x, H ++ [.list ys]))
  (hf : ∀ x ∈ l, ∀ z ∈ zs x, ∀ ys, f (some (fv x) :: some z :: cs.map fun i => loc.getD i none) (H ++ [.list ys]) = some (g x z, H ++ [.list ys]))
  (hc : ∀ x ∈ l, ∀ z ∈ zs x, lowV 0 7 (g x z) = true) (hl : (l.flatMap fun x => (zs x).map (g x)).length ≤ 1000) (hH : H.all (lowO H.length) = true) :
  compF true qf (fun v loc => some (loc.set 0 (some v))) (fun _ H => some (true, H)) (innerF q2 (fun v loc => some (loc.set 1 (some v))) (fun _ H => some (true, H)) fun i => emitF i f) [y0, y1] cs loc H = some (.lst (l.flatMap fun x => (zs x).map (g x)), H) := by
 refine comp_fin hq (compL_run (Pq := fun q => ∃ m0 m1, q = m0 :: m1 :: cs.map fun i => loc.getD i none) (Py := fun _ => True) fv (fun x => (zs x).map (g x)) l [] _ ⟨none, none, rfl⟩ trivial (fun x hx q ys hq _ hn => ⟨trivial, hq.elim fun m0 h => h.elim fun m1 e => ?_⟩) ((Nat.zero_add _).symm ▸ hl))
  (fun v hv => (List.mem_flatMap.mp hv).elim fun x w => (List.mem_map.mp w.2).elim fun z y => y.2 ▸ hc x w.1 z y.1) hH
 subst e
 have r := compL_run (H := H) (tf := fun v loc => some (loc.set 1 (some v))) (tests := fun _ H => some (true, H)) (em := emitF H.length f) (Pq := fun q => ∃ m1, q = some (fv x) :: m1 :: cs.map fun i => loc.getD i none) (Py := fun _ => True) id (fun z => [g x z]) (zs x) ys (some (fv x) :: m1 :: cs.map fun i => loc.getD i none) ⟨_, rfl⟩ trivial
  (fun z hz q ys hq _ hn => ⟨trivial, hq.elim fun m e => by subst e; exact ⟨_, ⟨_, rfl⟩, step_run rfl rfl (emit_run (hf x hx z hz ys) (Nat.le_trans (Nat.le_add_right _ _) hn))⟩⟩) (by rw [← List.map_eq_flatMap]; exact hn)
 rw [List.map_id, ← List.map_eq_flatMap] at r
 exact r.elim fun q' w => w.1.elim fun m e => ⟨q', ⟨_, _, e⟩, step_run rfl rfl (bind_of (hq2 x hx m1 ys) w.2)⟩
theorem comp2 {qf q2 : QF} {f : EF} {y0 y1 : Str} {cs : List Nat} {xs : List V} (zs : V → List V) (g : V → V → V) (hq : qf loc H = some (xs, H))
  (hq2 : ∀ x ∈ xs, ∀ l1 ys, q2 (some x :: l1 :: cs.map fun i => loc.getD i none) (H ++ [.list ys]) = some (zs x, H ++ [.list ys]))
  (hf : ∀ x ∈ xs, ∀ z ∈ zs x, ∀ ys, f (some x :: some z :: cs.map fun i => loc.getD i none) (H ++ [.list ys]) = some (g x z, H ++ [.list ys]))
  (hc : ∀ x ∈ xs, ∀ z ∈ zs x, lowV 0 7 (g x z) = true) (hl : (xs.flatMap fun x => (zs x).map (g x)).length ≤ 1000) (hH : H.all (lowO H.length) = true) :
  compF true qf (fun v loc => some (loc.set 0 (some v))) (fun _ H => some (true, H)) (innerF q2 (fun v loc => some (loc.set 1 (some v))) (fun _ H => some (true, H)) fun i => emitF i f) [y0, y1] cs loc H = some (.lst (xs.flatMap fun x => (zs x).map (g x)), H) := comp2M id zs g (hq.trans (by rw [List.map_id])) hq2 hf hc hl hH
end
end
end
end
section
section
section
variable {loc : Loc} {H H' : List AO}
theorem loop_step {tf : GF} {B Z : SF} {x : V} {xs : List V} {l l1 l2 : Loc} {h h2 : List AO} {r} (e1 : tf x l = some l1) (e2 : B l1 h = some (.next, l2, h2)) (e3 : loopF tf B Z xs l2 h2 = r) : loopF tf B Z (x :: xs) l h = r := bind_of e1 (bind_of e2 e3)
theorem seq_next {f g : SF} {l l' : Loc} {h h' : List AO} {r} (e : f l h = some (.next, l', h')) (e2 : g l' h' = r) : seqF f g l h = r := by
 unfold seqF
 rw [e]
 exact e2
theorem seq_ret {f g : SF} {l l' : Loc} {h h' : List AO} {v : V} (e : f l h = some (.ret v, l', h')) : seqF f g l h = some (.ret v, l', h') := by
 unfold seqF
 rw [e]
 rfl
theorem set_run {i : Nat} {f : EF} {l : Loc} {h h' : List AO} {v : V} (e : f l h = some (v, h')) : setF i f l h = some (.next, l.set i (some v), h') := by
 unfold setF
 rw [e]
 rfl
theorem ret_run {f : EF} {l : Loc} {h h' : List AO} {v : V} (e : f l h = some (v, h')) : retF f l h = some (.ret v, l, h') := by
 unfold retF
 rw [e]
 rfl
theorem if_true' {t : TF} {f g : SF} {l : Loc} {h h' : List AO} {r} (e : t l h = some (true, h')) (e2 : f l h' = r) : ifF t f g l h = r := by
 unfold ifF
 rw [e]
 exact e2
theorem if_false' {t : TF} {f g : SF} {l : Loc} {h h' : List AO} {r} (e : t l h = some (false, h')) (e2 : g l h' = r) : ifF t f g l h = r := by
 unfold ifF
 rw [e]
 exact e2
theorem for_run {q : QF} {tf : GF} {B Z : SF} {l : Loc} {h h' : List AO} {xs : List V} {r} (e : q l h = some (xs, h')) (e2 : loopF tf B Z xs l h' = r) : forF q tf B Z l h = r := by
 unfold forF
 rw [e]
 exact e2
theorem body_ret {xs : List (Str × Option Nat)} {bind : List V → Option (List (Str × V))} {B : SF} {args : List V} {H H' : List AO} {ab : List (Str × V)} {l : Loc} {v : V} (e1 : bind args = some ab) (e2 : B (locA xs ab) H = some (.ret v, l, H')) : bodyF xs bind B args H = some (v, H') := by
 unfold bodyF
 rw [e1]
 simp only [Option.bind_some]
 rw [e2]
 rfl
theorem call_run {g : LF} {F : List V → List AO → Option (V × List AO)} {l : Loc} {h h1 : List AO} {vs : List V} {r} (e1 : g l h = some (vs, h1)) (e2 : F vs h1 = r) : callF g F l h = r := by
 unfold callF
 rw [e1]
 exact e2
end
end
end
section
section
noncomputable abbrev accA (xs : List V) (z : V) : AO := .inst 178 (some xs) [(("_initial_size" : Str), z)]
noncomputable def P138 : { B : SF // ∀ w p loose mean mg mb, FnOk (Wc w p loose mean mg mb) 1 (.ref 138) (bodyF [("self", none)] (bindP ["self"]) B) } := by
 refine ⟨?B, fun w p loose mean mg mb => (along178 (w := w) (p := p) (loose := loose) (mean := mean) (mg := mg) (mb := mb)).elim fun cd B => fn_okS (fo := ?fo) (fd := ?fd) (body := ?body) ?ho ?hd ?hb ?hgl ?hbi ?hcd ?hco ?hgen ?hk ?hno ?hcells ?hbind ?hbody⟩
 case ho => exact rfl
 case hd => exact rfl
 case hb => exact rfl
 case hgl => rfl
 case hbi => rfl
 case hcd => rfl
 case hco => rfl
 case hgen => rfl
 case hk => decide
 case hno => intro q hq; simp at hq; subst hq; rfl
 case hcells => rfl
 case hbind => exact bnd1 (fun X => rfl) (by decide)
 case hbody =>
  intro A g L base fr O
  refine' sxt_cons (SX.t (sx_if (sb_cmp ?m1 se_int (op_eq O)) (sx_cons (sx_return (se_tuple (sl_cons se_str (sl_cons se_str sl_nil)))) sx_nil) sx_nil)) (sxt_cons (sxt_return ?m2) sx_nil.t)
  case m1 =>
   refine' se_meth (n := 0) O (Nat.lt_succ_self 0) (se_name O 0 rfl rfl) (sg178 (f := 175) ?g1 ?g2) (.ref ?g3) sl_nil .nil f175.call ?g4
   case g1 => rfl
   case g2 => rfl
   case g3 => rfl
   case g4 => rfl
  case m2 =>
   exact set_super_pop O ⟨⟨_, rfl, rfl⟩, ⟨_, _, rfl, rfl, rfl⟩, ⟨_, _, _, _, _, rfl, rfl, rfl, rfl, by rfl⟩, by rfl, ⟨_, rfl, rfl⟩, rfl, rfl, rfl, ⟨_, _, rfl, rfl⟩, rfl, rfl⟩ B rfl (by rfl)
noncomputable def pop138 : List V → List AO → Option (V × List AO) := bodyF [("self", none)] (bindP ["self"]) P138.1
section
variable {w : World} {p : Program} {loose : List Str} {mean : ExcName → Option Value} {mg mb : Str → Option Value}
theorem f138s : FnOk (Wc w p loose mean mg mb) 1 (.ref 138) pop138 := P138.2 _ _ _ _ _ _
end
end
end
section
section
noncomputable def pEq (p q : Str × Str) : Bool := p.1 == q.1 && p.2 == q.2
noncomputable def okP (p : Str × Str) : Bool := PyData.canLay0 (.str p.1) && PyData.canLay0 (.str p.2)
section
variable {W : Wd} {Φ : Fx} {ρ ρ' : List Cell} {loc : Loc} {H H' : List AO} {s s' s0 : Shared} {A : Around} {X : String} {P : Addr → Obj → Prop}
theorem VRs.eraseIdx {xs : List V} {vs : List Value} (h : VRs P ρ xs vs) (j : Nat) : VRs P ρ (xs.eraseIdx j) (vs.eraseIdx j) := by
 rw [List.eraseIdx_eq_take_drop_succ, List.eraseIdx_eq_take_drop_succ]
 exact (h.take j).append (h.drop (j + 1))
noncomputable def remF (p q : Nat) : RF := fun loc H => (loc[p]?.join).bind fun a => (loc[q]?.join).bind fun b => a.ref?.bind fun c => listAt (fun ys => (pairsV ys).bind fun ps => (pairV b).bind fun pr => if (ys.length ≤ 1000 ∧ okP pr = true ∧ ps.all okP = true) then
 (if ps.findIdx (pEq · pr) < ps.length then some (.ok .next, loc, H.set c (.list (ys.eraseIdx (ps.findIdx (pEq · pr))))) else some (.exc, loc, H)) else none) H[c]?
noncomputable def eqP (h : Heap) (pr : Str × Str) (y : Value) : Bool := Option.casesOn (pairAt h y) false fun p => pEq p pr
theorem PairR.eqP {h : Heap} (hp : ∀ a o, P a o → h.get? a = some o) {p : Str × Str} {v : Value} (r : PairR P p v) (pr : Str × Str) : eqP h pr v = pEq p pr := by
 unfold Mine.eqP
 rw [r.at hp]
theorem rem_at {h : Heap} (hp : ∀ a o, P a o → h.get? a = some o) {ps : List (Str × Str)} {vs : List Value} (hr : PairsR P ps vs) (pr : Str × Str) (m : Nat) (hm : m < vs.toArray.size) : ∃ hm2 : m < ps.length, PairR P ps[m] vs.toArray[m] ∧ eqP h pr vs.toArray[m] = pEq ps[m] pr :=
 (hr.at.2 m hm).elim fun p z => z.elim fun v z => (List.getElem?_eq_some_iff.mp z.1).elim fun hm2 e => (List.getElem?_eq_some_iff.mp z.2.1).elim fun hm3 e3 => by
  subst e e3
  exact ⟨hm2, z.2.2, z.2.2.eqP hp pr⟩
theorem rem_eq {h : Heap} (hp : ∀ a o, P a o → h.get? a = some o) {ps : List (Str × Str)} {pr : Str × Str} {vs : List Value} {bx : Addr} {t1 t2 : Tok} (hr : PairsR P ps vs) (hb : h.get? bx = some (tupO [.str pr.1 t1, .str pr.2 t2])) (hok : okP pr = true) (hoks : ps.all okP = true) (y : Value) (hy : y ∈ vs.toArray) : EqAt h y (.ref bx) (eqP h pr y) :=
 (Array.getElem_of_mem hy).elim fun m z => z.elim fun hm e => (rem_at hp hr pr m hm).elim fun hm2 y => by
  subst e
  rw [y.2]
  have o1 := List.all_eq_true.mp hoks _ (List.getElem_mem hm2)
  exact y.1.elim fun a w => w.elim fun t w => w.elim fun u w => by
   rw [w.1]
   refine eqAt_pairs (hp _ _ w.2) hb ?_
   unfold okP at hok o1
   exact Bool.and_eq_true_iff.mpr ⟨Bool.and_eq_true_iff.mpr ⟨o1, (Bool.and_eq_true_iff.mp hok).1⟩, (Bool.and_eq_true_iff.mp hok).2⟩
theorem erase_at {h : Heap} {l : Addr} {vs : List Value} {n j : Nat} (ho : h.get? l = some (lstO vs n)) (hj : j < vs.length) : ∃ n9, (h.update l (Obj.mapSeq fun xs => xs.eraseIdxIfInBounds j)).get? l = some (lstO (vs.eraseIdx j) n9) := by
 have e9 : vs.toArray.eraseIdxIfInBounds j = (vs.eraseIdx j).toArray := by
  unfold Array.eraseIdxIfInBounds
  rw [dif_pos (show j < vs.toArray.size from hj)]
  exact List.eraseIdx_toArray _ _ _
 exact ⟨_, (Heap.get?_update_self (Obj.mapSeq fun xs => xs.eraseIdxIfInBounds j) ho rfl).trans (congrArg (fun q => some ({ cls := .type "list", data := .seq q _ } : Obj)) e9)⟩
theorem rx_remove (O : Φ.Ok W) (p q : Nat) {x y : Str} {kx ky : Option Addr} {p1 p2 ap pos pos2 : Pos} (hn : Φ.names[p]? = some (x, kx)) (hm : Φ.names[q]? = some (y, ky)) (hd : (x == ("__debug__" : Str)) = false) (hd2 : (y == ("__debug__" : Str)) = false) {pl : Sem Bool}
  (hp1 : starEach (.Name y p2 :: []) Φ.env = (false, eval (.Name y p2) Φ.env) :: starEach [] Φ.env)
  (he : eval (.Call (.Attribute (.Name x p1) "remove" ap) [.Name y p2] [] pos) Φ.env = (do
   let ov ← eval (.Name x p1) Φ.env
   standAt ap.atName
   let (f, first) ← holding [ov] (getMethod ov "remove" pl)
   callWith pos f first (backTo pos (starEach [.Name y p2] Φ.env)) []))
  (hi : interactive Φ.env = false) (hs : swapsWith (.Call (.Attribute (.Name x p1) "remove" ap) [.Name y p2] [] pos) none pos2.line Φ.env = pure false) :
  RX W Φ Φ.A "ValueError" (exec (.Expr (.Call (.Attribute (.Name x p1) "remove" ap) [.Name y p2] [] pos) pos2) Φ.env) (remF p q) := fun loc H r loc' H' ρ s Q E hf S kk => obp hf fun a e1 hf => obp hf fun b e2 hf => obp hf fun c e0 hf => listAt_is hf fun ys hy hf => obp hf fun ps e3 hf => obp hf fun pr e4 hf => ifo hf fun hz hf => wpAny_Expr (MethodCall_ (raw_name O p hn hd (join_some e1) S fun X1 v1 => (v1.isRef e0).elim fun cc y => by
 rw [y.2]
 refine (S.hp.2 _ _ _ y.1 hy).2.elim fun vs z => z.elim fun n z => ?_
 have ho := z.1
 refine getMethod_list_of PySem.F.slot_list_remove PySem.F.type_list_remove (isList_of ho) ⟨_, ho, rfl⟩ (callWith_method1 (args_cons (raw_name O q hm hd2 (join_some e2) S fun X2 v2 => args_nil ((v2.pair e4).elim fun bx x => x.elim fun t1 x => x.elim fun t2 x => ?_)) hp1))
 rw [x.1]
 have hr := pairs_rel z.2 e3
 have hp : ∀ a o, Φ.P ρ s.heap a o → s.heap.get? a = some o := fun _ _ z => z.1
 have heq := rem_eq hp hr x.2.1 hz.2.1 hz.2.2
 have hun : Φ.A.in1.units + 64 < cLine := Nat.lt_of_le_of_lt (show Φ.A.units + 1 + 64 ≤ _ by omega) O.units
 have hlen := hr.at.1
 by_cases hj : ps.findIdx (pEq · pr) < ps.length
 ·have kk := kk.ofS ((if_pos hj).symm.trans hf)
  have hjv := hlen ▸ hj
  refine call_meets PySem.F.slot_list_remove ⟨_, ho, rfl⟩ PySem.F.entry_list_remove (PySem.F.args_list_remove_2 _ _) (list_removeT cc.1 vs.toArray n _ _ _ hjv ((rem_at hp hr pr _ hjv).elim fun _ w => w.2.trans (List.findIdx_getElem (w := hj))) (fun m hm hlt => (rem_at hp hr pr m hm).elim fun _ w => w.2.trans (List.not_of_lt_findIdx hlt)) (le_size3 (show vs.length ≤ 1000 from z.2.length ▸ hz.1))) ⟨hun, heq, ho, ?_⟩
  exact (erase_at ho hjv).elim fun n9 hg => have w := S.upd (o' := .list (ys.eraseIdx (ps.findIdx (pEq · pr)))) (tk := s.toks) y.1 (.head _) (Heap.SameBut.update ..) (seq_nofields ho rfl) ⟨(S.hp.2 _ _ _ y.1 hy).1, _, _, hg, (z.2.mono (fun b o z => SI.mono_but (mem_M_mut (mem_mutA y.1 (.head _))) (Heap.SameBut.update ..).extBut z) fun _ _ h => h).eraseIdx _⟩; kk .next _ _ w.2 w.1 trivial
 ·have kk := kk.ofS ((if_neg hj).symm.trans hf)
  exact call_meets PySem.F.slot_list_remove ⟨_, ho, rfl⟩ PySem.F.entry_list_remove (PySem.F.args_list_remove_2 _ _) (list_remove_noneT cc.1 vs.toArray n _ _ (fun m hm => (rem_at hp hr pr m hm).elim fun hm2 w => w.2.trans (List.not_of_lt_findIdx (Nat.lt_of_lt_of_le hm2 (Nat.not_lt.mp hj))))) ⟨hun, heq, ho, O.hh, fun h' tk e x => have w := S.keptH (tk := tk) x.keeps; kk e none _ ρ w.1 w.2 (Exc.raised S x) (.inl rfl)⟩) he) hi hs
noncomputable def appNF (i : Nat) (f : EF) : EF := fun loc H => (loc[i]?.join).bind fun v => (f loc H).bind fun p => v.ref?.bind fun c => (listOf? H v).bind fun _ => (appendTo c p.1 p.2).map (.none, ·)
theorem se_appendA (O : Φ.Ok W) (A : Around) (i : Nat) {x : Str} {k : Option Addr} {p1 ap pos : Pos} {arg : Expr} {f : EF} (hn : Φ.names[i]? = some (x, k)) (hd : (x == ("__debug__" : Str)) = false) (ha : SE W (Φ.at A) arg f) {pl : Sem Bool}
  (hp1 : starEach (arg :: []) Φ.env = (false, eval arg Φ.env) :: starEach [] Φ.env)
  (he : eval (.Call (.Attribute (.Name x p1) "append" ap) [arg] [] pos) Φ.env = (do
   let ov ← eval (.Name x p1) Φ.env
   standAt ap.atName
   let (f, first) ← holding [ov] (getMethod ov "append" pl)
   callWith pos f first (backTo pos (starEach [arg] Φ.env)) [])) : SE W (Φ.at A) (.Call (.Attribute (.Name x p1) "append" ap) [arg] [] pos) (appNF i f) := fun loc H v H' ρ s Q E hf S kq => obp hf fun a e0 hf => obp2 hf fun b H1 e1 hf => obp hf fun c e3 hf => obp hf fun xs0 hc0 hf => omp hf fun H2 e2 hf => MethodCall_ (raw_name O i hn hd (join_some e0) S.outA fun X1 v1 => S.outA.listE hc0 v1 fun l vs n eX ho hv => by
 subst eX
 exact getMethod_list_of PySem.F.slot_list_append PySem.F.type_list_append (isList_of ho) ⟨_, ho, rfl⟩ (callWith_method1 (args_cons (ha _ _ _ _ _ _ _ _ e1 S fun X2 s2 ρ2 t2 S2 v2 => args_nil ((v1.isRef e3).elim fun cc y => (Value.ref.inj y.2) ▸ wp_append S2 (t2.pre _ _ y.1) v2 e2 fun s3 t3 S3 => kq.of hf _ _ _ (t2.trans t3) S3 .none)) hp1) hp1)) he
end
section
variable {w : World} {p : Program} {loose : List Str} {mean : ExcName → Option Value} {mg mb : Str → Option Value}
noncomputable abbrev n196 : List (Str × Option Nat) := [("expected", none), ("actual", none), ("missing", none), ("item", none)]
theorem bootValueError : bootBuiltins "ValueError" = some (.type "ValueError") := by kernel_rfl
end
end
end
section
open PySem PySem.W PyProof.Rows PySem.Spec PySem.Calls Builtin Builtin.ObjectAttr Builtin.Getset_descriptor
section
noncomputable def makesL (K : Frag) (C : Addr) : Bool := match K.lookup C with
 | some ⟨_, _, .cls cd, sl⟩ => !cd.abstract && !cd.hasDel && cd.hasDict && (sl.toList[4]?).join == some (.builtin "list.__new__") && !cd.mro.isEmpty && cd.mro.contains (.ref C) && cd.mro.contains (.type "list") &&
   specialIn K (.ref C) "__call__" == some (some (.builtin "type.__call__")) && instIn K (.ref C) (.type "type") == some true
 | _ => false
structure MakesL (M : Model) (h : Heap) (C : Addr) : Prop where
 obj : ∃ oc od cd sl, h.get? C = some ⟨oc, od, .cls cd, sl⟩ ∧ cd.abstract = false ∧ cd.hasDel = false ∧ cd.hasDict = true ∧ cd.mro.isEmpty = false
 made : Looks M h (Bind.madeBy (.ref C)) (some "list.__new__")
 base : Looks M h (Bind.staticBase (.ref C)) (.ref C)
 self : Looks M h (isSubtype (.ref C) (.ref C)) true
 top : Looks M h (isSubtype (.ref C) (.type "list")) true
 call : Looks M h (specialOf (.ref C) "__call__") (some (.builtin "type.__call__"))
 typ : Looks M h (isInstance (.ref C) (.type "type")) true
theorem makesL_of {K : Frag} {M : Model} {h : Heap} (X : K.In h) {C : Addr} (e : makesL K C = true) : MakesL M h C := by
 unfold makesL at e
 split at e
 ·rename_i oc od cd sl ho
  simp only [Bool.and_eq_true, Bool.not_eq_true', beq_iff_eq] at e
  obtain ⟨⟨⟨⟨⟨⟨⟨⟨e1, e2⟩, e9⟩, e3⟩, e4⟩, e5⟩, e6⟩, e7⟩, e8⟩ := e
  have hc : clsIn K C = some cd := by unfold clsIn; rw [ho]
  have hm : Looks M h (mroOf (.ref C)) cd.mro := (looks_clsIn X hc).andThen .now
  obtain ⟨c, l, hl⟩ : ∃ c l, cd.mro = c :: l := by cases q : cd.mro with | nil => rw [q] at e4; cases e4 | cons c l => exact ⟨c, l, rfl⟩
  have made : Looks M h (Bind.madeBy (.ref C)) (some "list.__new__") := by
   intro A Q E s k q
   unfold Bind.madeBy
   refine wpAny_bind (hm A _ E s k ?_)
   rw [hl, List.forIn_cons]
   refine wpAny_bind (wpAny_bind (wpAny_bind (wpAny_bind (wpAny_loadPart (k _ _ (X _ _ ho)) (wpAny_pure ?_)))))
   dsimp only
   rw [← Array.getElem?_toList, e3]
   exact wpAny_pure (wpAny_pure (wpAny_pure q))
  refine ⟨⟨oc, od, cd, sl, X _ _ ho, e1, e2, e9, e4⟩, made, ?_, looks_mroIn X ?_, looks_mroIn X ?_, looks_specialIn X e7, looks_instIn X e8⟩
  ·intro A Q E s k q
   unfold Bind.staticBase
   refine wpAny_bind (hm A _ E s k ?_)
   rw [hl, List.forIn_cons]
   exact wpAny_bind (wpAny_bind (wpAny_bind (made A _ E s k (wpAny_pure (wpAny_pure (wpAny_pure q))))))
  ·unfold mroIn; rw [hc, Option.bind_some, if_neg (by rw [e4]; decide), e5]
  ·unfold mroIn; rw [hc, Option.bind_some, if_neg (by rw [e4]; decide), e6]
 ·cases e
noncomputable abbrev instL (C dx : Addr) : Obj := { cls := .ref C, dict := some dx, data := .seq #[] }
theorem kind_list_new : builtinKind "list.__new__" = some .builtinFn := by decide +kernel
theorem split_list_new : splitId "list.__new__" = some ("list", "__new__") := by decide +kernel
theorem quiet_list_new : ("list.__new__" : String).startsWith "lifetime." = false := by decide +kernel
noncomputable def tailL (args : Args) : Sem Unit := match Manifest.signature? "list.__new__" with
 | some sig => Bind.checkArgs "list.__new__" sig args
 | none => pure ()
theorem tailL_0 (C : Addr) : tailL ⟨[.ref C], []⟩ = pure () := by kernel_rfl
theorem tailL_1 (C : Addr) (a : Value) : tailL ⟨[.ref C, a], []⟩ = pure () := by kernel_rfl
section
variable {prog : Program} {w : World} {A : Around} {K : Frag} {C : Addr} {R : Result → Shared → Prop} {h : Heap} {g : Array GenState} {d : Drawn} {t : Nat} {os : OsState}
theorem new_L {rest : List Value} (Y : MakesL (model prog w) h C) (ht : tailL ⟨.ref C :: rest, []⟩ = pure ())
  (hq : R (.ok (.ret (.ref (h.objs.size + 1)))) ⟨(h.push emptyDict).push (instL C h.objs.size), g, d, t, os⟩) :
  codeAny (model prog w) A (.call (.builtin "list.__new__") ⟨.ref C :: rest, []⟩) R ⟨h, g, d, t, os⟩ := by
 obtain ⟨⟨oc, od, cd, sl, hC, e1, e2, e3, e4⟩, made, base, self, top, call, typ⟩ := Y
 have isT : Looks (model prog w) h (isType (.ref C)) true := (Looks.ld hC).andThen .now
 refine codeAny_call_builtin_code (Code.quiet_builtin _ quiet_list_new) ?_
 simp only [checkBuiltinCall, kind_list_new, split_list_new]
 have fin : wpAny (model prog w) A.in1 (tailL ⟨.ref C :: rest, []⟩) (fun _ s' => codeAny (model prog w) A (.builtin "list.__new__" ⟨.ref C :: rest, []⟩) R s') (fun e s' => R (.error e) s') ⟨h, g, d, t, os⟩ := by
  rw [ht]
  refine wpAny_pure (codeAny_builtin_stack PySem.F.entry_list_new rfl fun p st => ?_)
  rw [Around.under_plainId PySem.F.plain_list_new _]
  simp only [owner_list_new]
  refine wpAny_bind (isT.here ?_)
  simp only [Bool.not_true, Bool.false_eq_true, if_false]
  refine wpAny_bind (top.here ?_)
  simp only [Bool.not_true, Bool.false_eq_true, if_false]
  refine wpAny_bind (wpAny_pure ?_)
  rw [if_neg (show ¬ ((!typeHasDict (.ref C)) = true) from fun q => by cases q)]
  unfold newDict
  refine wpAny_bind (wpAny_newObj_type ?_)
  dsimp only
  refine wpAny_bind ?_
  show wpAny _ _ (newObjAsIs _ _ _) _ _ _
  unfold newObjAsIs classHasDel
  refine wpAny_bind (wpAny_alloc (wpAny_bind (wpAny_bind (wpAny_load (Heap.get?_push_of_some _ (Heap.get?_push_of_some _ hC)) (wpAny_pure ?_)))))
  rw [e2]
  refine wpAny_pure (wpAny_pure ?_)
  show R _ _
  rw [Heap.size_push]
  exact hq
 rw [if_pos (by decide)]
 refine wpAny_bind (isT.here ?_)
 simp only [Bool.not_true, Bool.false_eq_true, if_false]
 refine wpAny_bind (top.here ?_)
 simp only [Bool.not_true, Bool.false_eq_true, if_false]
 refine wpAny_bind (base.here ?_)
 refine wpAny_bind (made.here ?_)
 simp only [bne_self_eq_false, Bool.false_eq_true, if_false]
 exact fin
theorem make_coreL {rest : List Value} {init : Value} (Y : MakesL (model prog w) h C) (ht : tailL ⟨.ref C :: rest, []⟩ = pure ()) (hi : Looks (model prog w) h (typeLookup (.ref C) "__init__") (some init))
  (hb : ∀ self, Looks (model prog w) h (bindSpecial init self) (init, [self]))
  (hq : codeAny (model prog w) (A.under (.builtin "type.__call__" ⟨.ref C :: rest, []⟩)) (.call init ⟨.ref (h.objs.size + 1) :: rest, []⟩) (InitBack (h.objs.size + 1) R) ⟨(h.push emptyDict).push (instL C h.objs.size), g, d, t, os⟩) :
  codeAny (model prog w) A (.call (.ref C) ⟨rest, []⟩) R ⟨h, g, d, t, os⟩ := by
 have Y' := Y
 obtain ⟨⟨oc, od, cd, sl, hC, e1, e2, e3, e4⟩, made, base, self, top, call, typ⟩ := Y
 refine codeAny_of_tree ?_
 show wpAny _ _ (callAny (.ref C) _) _ _ _
 refine nd_load hC ?_
 show wpAny _ _ (callAny.viaDunder (.ref C) _) _ _ _
 unfold callAny.viaDunder
 refine wpAny_bind (call.at ?_)
 dsimp only
 rw [tc_bind]
 refine wpAny_bind (wpAny_pure (wpAny_bind (wpAny_pure ?_)))
 refine wpAny_pure (a := Fin.again (.call (.builtin "type.__call__") ⟨.ref C :: rest, []⟩)) (And.intro rfl ?_)
 refine codeAny_call_builtin_at (Code.quiet_builtin _ (by decide +kernel)) entry_typeCall (check_slot tc_kind tc_split typ (tc_args _ _ _) ?_)
 unfold Builtin.«type.__call__»
 have hm : Looks (model prog w) h (mroOf (.ref C)) cd.mro := ((Looks.ld (part := none) hC).andThen .now).andThen .now
 repeat (first | simp only [e4, Bool.false_eq_true, if_false] | with_reducible refine wpAny_call ?_ | lk)
 refine new_L Y' ht ?_
 have k : ∀ b o, h.get? b = some o → ((h.push emptyDict).push (instL C h.objs.size)).get? b = some o := fun b o e => Heap.get?_push_of_some _ (Heap.get?_push_of_some _ e)
 have hx : ((h.push emptyDict).push (instL C h.objs.size)).get? (h.objs.size + 1) = some (instL C h.objs.size) := by heap_get
 have t1 : Looks (model prog w) ((h.push emptyDict).push (instL C h.objs.size)) (typeOf (.ref (h.objs.size + 1))) (.ref C) := (Looks.ld hx).andThen .now
 have s1 := self.keeps k
 have i1 := hi.keeps k
 have b1 := (hb (.ref (h.objs.size + 1))).keeps k
 unfold isInstance callSpecial? specialOf
 repeat (first | with_reducible refine wpAny_call ?_ | lk)
 refine codeAny_mono hq fun r s' z => ?_
 rcases r with e | (v | _ | _ | _) <;> first | exact z | exact z.elim | skip
 obtain ⟨rfl, z⟩ := z
 exact wpAny_pure (wpAny_pure z)
end
end
end
section
section
section
variable {W : Wd} {Φ : Fx} {ρ ρ' : List Cell} {loc : Loc} {H H' : List AO} {s s' s0 : Shared}
noncomputable def newF (o : AO) (F : List V → List AO → Option (V × List AO)) (args : List V) (H : List AO) : Option (V × List AO) := (F (.ref H.length :: args) (H ++ [o])).bind fun p => if p.1.isN then some (.ref H.length, p.2) else none
theorem frames_make (A : Around) (C : Addr) (vals : List Value) : (A.under (.builtin "type.__call__" ⟨.ref C :: vals, []⟩)).frames = A.frames := by
 show pushEnvs (Code.envs (.builtin "type.__call__" ⟨.ref C :: vals, []⟩)) A.frames = _
 cases h : A.frames <;> rfl
theorem cls_ok {n : Nat} {C fI : Addr} {F} (mx : Nat) (fi : FnOk W n (.ref fI) F) {o : AO} {od : Obj}
  (hor : ∀ (P : Addr → Obj → Prop) (ρ : List Cell) (h : Heap) (x d : Addr), h.get? d = some emptyDict → h.get? x = some { od with dict := some d } → OR W.w h P ρ (x, some d) o)
  (hfr : ∀ d, ({ od with dict := some d } : Obj).isFreed = false)
  (mk : ∀ (A : Around) (rest : List Value) (R : Result → Shared → Prop) (s : Shared), rest.length ≤ mx → W.K.In s.heap →
   codeAny W.M (A.under (.builtin "type.__call__" ⟨.ref C :: rest, []⟩)) (.call (.ref fI) ⟨.ref (s.heap.objs.size + 1) :: rest, []⟩) (InitBack (s.heap.objs.size + 1) R) { s with heap := (s.heap.push emptyDict).push { od with dict := some s.heap.objs.size } } →
   codeAny W.M A (.call (.ref C) ⟨rest, []⟩) R s) : FnOk W (n + 1) (.ref C) (fun args H => if args.length ≤ mx then newF o F args H else none) := fun Φ O hn loc H args v H' Vs ρ s R hf S hv k =>
 ifo hf fun hlen hf => obp2 hf fun u H1 e1 hf => ifs hf fun hu q => by
  refine mk Φ.A Vs R s (hv.length ▸ hlen) (S.KI O) ?_
  have k1 : Kp s { s with heap := s.heap.push emptyDict } := Kp.pushO s _
  have k2 : Kp s { s with heap := (s.heap.push emptyDict).push { od with dict := some s.heap.objs.size } } := k1.trans (Kp.pushO { s with heap := s.heap.push emptyDict } _)
  have hd : ((s.heap.push emptyDict).push { od with dict := some s.heap.objs.size }).get? s.heap.objs.size = some emptyDict := Heap.get?_push_of_some _ (Heap.get?_push_size _ rfl)
  have hx : ((s.heap.push emptyDict).push { od with dict := some s.heap.objs.size }).get? (s.heap.objs.size + 1) = some { od with dict := some s.heap.objs.size } := Heap.size_push s.heap emptyDict ▸ Heap.get?_push_size (s.heap.push emptyDict) (o := { od with dict := some s.heap.objs.size }) (hfr _)
  have hca : ∀ a ∈ cellAs (s.heap.objs.size + 1, some s.heap.objs.size), s.heap.objs.size ≤ a ∧ a < ((s.heap.push emptyDict).push { od with dict := some s.heap.objs.size }).objs.size := fun a ha => (List.mem_cons.mp ha).elim (fun e => by rw [e]; exact ⟨Nat.le_succ _, Heap.lt_size hx⟩) fun e => by rw [List.mem_singleton.mp e]; exact ⟨Nat.le_refl _, Heap.lt_size hd⟩
  have hnd : (cellAs (s.heap.objs.size + 1, some s.heap.objs.size)).Nodup := List.nodup_cons.mpr ⟨fun e => Nat.succ_ne_self _ (List.mem_singleton.mp e), List.nodup_cons.mpr ⟨List.not_mem_nil, List.nodup_nil⟩⟩
  refine (S.add k2 (c := (s.heap.objs.size + 1, some s.heap.objs.size)) (o := o) hca hnd (fun P hP => hor P _ _ _ _ hd hx)).elim fun S2 t2 => ?_
  have hi0 : (ρ ++ [((s.heap.objs.size + 1, some s.heap.objs.size) : Cell)])[H.length]? = some (s.heap.objs.size + 1, some s.heap.objs.size) := by rw [← S.hp.1]; exact List.getElem?_concat_length
  refine fi (Φ.inC (Φ.A.under (.builtin "type.__call__" ⟨.ref C :: Vs, []⟩))) (O.inC (Nat.lt_of_le_of_lt (Nat.zero_le n) (Nat.lt_of_succ_lt hn)) (frames_make _ _ _) rfl (Nat.add_le_add_left (by decide : 1 ≤ 8) _) (Nat.add_le_add_left (by decide : 1 ≤ 100) _)) (Nat.lt_sub_of_add_lt hn) loc _ _ _ _ (.ref (s.heap.objs.size + 1) :: Vs) _ _ _ e1 (S2.inC _) (.cons (.ref (c := (s.heap.objs.size + 1, some s.heap.objs.size)) hi0) (t2.monos hv)) fun X s3 ρ3 t3 S3 v3 => ?_
  exact ⟨v3.isNone hu, k.of q _ _ ρ3 (t2.trans t3.outC) S3.outC (.ref (c := (s.heap.objs.size + 1, some s.heap.objs.size)) (t3.pre _ _ hi0))⟩
end
@[elab_as_elim] theorem le1 {P : List Value → Prop} (l : List Value) (h : l.length ≤ 1) (h0 : P []) (h1 : ∀ a, P [a]) : P l := by
 cases l with
 | nil => exact h0
 | cons a l => cases l with
  | nil => exact h1 a
  | cons b l => exact absurd (Nat.le_of_succ_le_succ h) (Nat.not_succ_le_zero _)
noncomputable abbrev n115 : List (Str × Option Nat) := [("self", none), ("initial_size", none)]
noncomputable def P115 : { B : SF // ∀ w p loose mean mg mb, FnOk (Wc w p loose mean mg mb) 0 (.ref 115) (bodyF n115 (bindD "self" "initial_size" (.int 0)) B) } := by
 refine ⟨?B, fun w p loose mean mg mb => (along178 (w := w) (p := p) (loose := loose) (mean := mean) (mg := mg) (mb := mb)).elim fun cd B => fn_okS (fo := ?fo) (fd := ?fd) (body := ?body) ?ho ?hd ?hb ?hgl ?hbi ?hcd ?hco ?hgen ?hk ?hno ?hcells ?hbind ?hbody⟩
 case ho => exact rfl
 case hd => exact rfl
 case hb => exact rfl
 case hgl => rfl
 case hbi => rfl
 case hcd => rfl
 case hco => rfl
 case hgen => rfl
 case hk => decide
 case hno => intro q hq; simp at hq; rcases hq with rfl | rfl <;> rfl
 case hcells => rfl
 case hbind => exact bndD rfl rfl rfl (fun _ _ => .int 0 _) (fun X => ⟨_, rfl, rfl⟩) (fun X Y => ⟨_, rfl, rfl⟩) (by decide) (by decide)
 case hbody =>
  intro A g L base fr O
  refine' sxt_cons (SX.t ?m1) (sxt_cons (sxt_expr ?m2 (by rfl) (by rfl)) sx_nil.t)
  case m1 => exact sx_setattr O (se_name O 1 rfl rfl) (se_name O 0 rfl rfl) set178 (by rfl)
  case m2 => exact set_super_init O ⟨⟨_, rfl, rfl⟩, ⟨_, _, rfl, rfl, rfl⟩, ⟨_, _, _, _, _, rfl, rfl, rfl, rfl, by rfl⟩, by rfl, ⟨_, rfl, rfl⟩, rfl, rfl, rfl, ⟨_, _, rfl, rfl⟩, rfl, rfl⟩ B rfl (by rfl)
noncomputable def F115 : List V → List AO → Option (V × List AO) := bodyF n115 (bindD "self" "initial_size" (.int 0)) P115.1
section
variable {w : World} {p : Program} {loose : List Str} {mean : ExcName → Option Value} {mg mb : Str → Option Value}
theorem makes178 : makesL (Wc w p loose mean mg mb).K 178 = true := by rfl
theorem makes94 : makesIn (Wc w p loose mean mg mb).K 94 = true := by rfl
noncomputable def new178 : List V → List AO → Option (V × List AO) := fun args H => if args.length ≤ 1 then newF (.inst 178 (some []) []) F115 args H else none
theorem c178 : FnOk (Wc w p loose mean mg mb) 1 (.ref 178) new178 :=
 cls_ok 1 (C := 178) (P115.2 _ _ _ _ _ _) (o := .inst 178 (some []) []) (od := { cls := .ref 178, data := .seq #[] }) (fun P ρ h x d h1 h2 => ⟨d, [], 0, [], 0, rfl, h2, .nil, h1, .nil⟩) (fun d => rfl) fun A rest R s hlen KI hq => by
  refine make_coreL (makesL_of KI makes178) ?_ (looks_findIn KI (by rfl)) (fun self => bind_fn KI self (by rfl)) hq
  exact le1 rest hlen (tailL_0 _) fun a => tailL_1 _ _
end
end
end
section
section
section
variable {W : Wd} {Φ : Fx} {ρ ρ' : List Cell} {loc : Loc} {H H' : List AO} {s s' s0 : Shared}
noncomputable def methSF (fo : EF) (D : List AO → V → Bool) (f : EF) (F : List V → List AO → Option (V × List AO)) : EF := fun loc H => (fo loc H).bind fun p => if D p.2 p.1 then (f loc p.2).bind fun q => match q.1 with
 | .tup xs => if xs.length ≤ 1000 then F (p.1 :: xs) q.2 else none
 | _ => none
 else none
noncomputable def SGb (W : Wd) (name : Str) (f : Addr) (D : List AO → V → Bool) : Prop := ∀ (Φ : Fx), Φ.Ok W → ∀ loc H v ρ s X expr (Q : Value → Shared → Prop) (E : Value → Shared → Prop), D H v = true → SI W Φ ρ loc H s → VR (Φ.P ρ s.heap) ρ v X →
 (∀ tk, Q (.ref s.heap.objs.size) { s with heap := s.heap.push (methodObj (.ref f) X), toks := tk }) → wpAny W.M Φ.A (getAttr X name expr) Q E s
theorem sgb_sub {C f : Addr} {x : Str} (hga : findIn W.K (.ref C) "__getattribute__" = some (some (.builtin "list.__getattribute__"))) (hk : findIn W.K (.ref C) "__getattr__" = some none) (hm : mroIn W.K C (.type "list") = some true)
  (hh : hasDictIn W.K C = true) (ha : findIn W.K (.ref C) x = some (some (.ref f))) (hf : typeIn W.K (.ref f) = some (.type "function")) (hgf : specialIn W.K (.ref f) "__get__" = some (some (.builtin "function.__get__"))) (ht : takesIn W.K (.ref f) = some false) (hc : copiedNames.contains x = false) : SGb W x f (isInst C x) := fun Φ O loc H v ρ s X expr Q E hd S hv k => by
 refine isInst_of hd fun i sq fs e1 e2 => ?_
 obtain ⟨a, d, data, es, n, rfl, rfl, hx, I0⟩ := S.inst e1 hv
 have KI := S.KI O
 have I := I0.at
 have hl := I0.fs.getL_none e2
 obtain ⟨hp, g, dr, t, os⟩ := s
 have L0 := I.type (M := W.M)
 have L1 := looks_findIn (M := W.M) KI hga
 have L2 := looks_findIn (M := W.M) KI hk
 have L3 := looks_find (M := W.M) KI I (findObj_fn hh ha hgf ht hc (by show lookIn x (dictOf es n) = _; rw [lookIn_dict, hl]))
 unfold getAttr getAttrBy
 refine wpAny_bind (wpAny_mkText (wpAny_holding (wpAny_bind (L0.at (wpAny_bind (L1.at ?_))))))
 show wpAny _ _ (getAttrByItsOwn (.ref a) (.str x t) (.ref C) (.builtin "list.__getattribute__") true expr) _ _ _
 unfold getAttrByItsOwn hookBefore callGetattribute boundAndCalled
 refine wpAny_bind ?_
 show wpAny _ _ (typeLookup (.ref C) "__getattr__") _ _ _
 refine L2.at ?_
 refine wpAny_bind (wpAny_attempt (wpAny_holding ?_))
 have e1 : (expr && onTheHeap (.builtin "list.__getattribute__")) = false := by cases expr <;> rfl
 rw [e1]
 show wpAny _ _ (bindSpecial (.builtin "list.__getattribute__") (.ref a) >>= _) _ _ _
 refine wpAny_bind (wpAny_of_eq (PySem.F.slot_list_getattribute.bind _) ?_)
 refine wpAny_mono (Q := fun v s' => v = .ref hp.objs.size ∧ s' = ⟨hp.push (methodObj (.ref f) (.ref a)), g, dr, t + 1, os⟩) (E := fun _ _ => False) (call_sub (owner := "list") (n := "__getattribute__") (.inl (by decide +kernel)) (by decide +kernel) PySem.F.slot_list_getattribute.plain PySem.F.entry_list_ga (inst_looks KI I hm) (PySem.F.args_list_getattribute_2 _ _) ?_) (fun v s' hv' => ?_) fun _ _ z => z.elim
 ·refine wpAny_bind (wpAny_pure (wpAny_bind (wpAny_pure (wpAny_bind (L0.at (wpAny_bind (L3.at ?_)))))))
  show wpAny _ _ (holding [.ref f] (call (.builtin "function.__get__") [.ref f, .ref a, .ref C]) >>= ret) _ _ _
  exact wpAny_bind (wpAny_holding (wpAny_call (fn_get (s := ⟨hp, g, dr, t + 1, os⟩) KI hf (wpAny_pure ⟨_, rfl, rfl, rfl⟩))))
 ·obtain ⟨rfl, rfl⟩ := hv'
  show wpAny _ _ (handedOut _) _ _ _
  rw [handedOut_of (by rfl)]
  exact wpAny_pure (k _)
theorem se_methStar {o e : Expr} {name : Str} {apos pos sp : Pos} {fo f : EF} {fv : Addr} {D : List AO → V → Bool} {F} {n : Nat} (O : Φ.Ok W) (hn : n < Φ.lv) (ho : SE W Φ o fo) (hg : SGb W name fv D) (hk : fnIn W.K fv = true) (he' : SE W Φ e f) (hc : FnOk W n (.ref fv) F)
  (hst : starEach [.Starred e sp] Φ.env = [(true, eval e Φ.env)])
  (he : eval (.Call (.Attribute o name apos) [.Starred e sp] [] pos) Φ.env = (do
   let ov ← eval o Φ.env
   standAt apos.atName
   let (f, first) ← holding [ov] (do pure (← getAttr ov name true, []))
   callWith pos f first (backTo pos (starEach [.Starred e sp] Φ.env)) [])) : SE W Φ (.Call (.Attribute o name apos) [.Starred e sp] [] pos) (methSF fo D f F) := fun loc H v H' ρ s Q E hf S k => by
 unfold methSF at hf
 refine obp2 hf fun u H1 e1 hf => ?_
 dsimp only at hf
 split at hf
 ·rename_i hD
  refine obp2 hf fun us H2 e2 e3 => ?_
  cases us with
  | tup xs =>
   dsimp only at e3
   split at e3
   ·rename_i hz
    rw [he]
    refine wpAny_bind (ho _ _ _ _ _ _ _ _ e1 S fun X s1 ρ1 t1 S1 v1 => wpAny_bind (wpAny_standAt (wpAny_bind (wpAny_holding (wpAny_bind (hg Φ O _ _ _ _ _ _ _ _ _ hD S1 v1 fun tk => wpAny_pure ?_))))))
    have k1 : Kp s1 { s1 with heap := s1.heap.push (methodObj (.ref fv) X), toks := tk } := Kp.push
    have ho1 : ({ s1 with heap := s1.heap.push (methodObj (.ref fv) X), toks := tk } : Shared).heap.get? s1.heap.objs.size = some (methodObj (.ref fv) X) := Heap.get?_push_size _ rfl
    have nM : s1.heap.objs.size ∉ Φ.M ρ1 := fun q => Nat.lt_irrefl _ (S1.lt _ q)
    have S1' := S1.kept k1
    show wpAny _ _ (callWith pos (.ref s1.heap.objs.size) [] (backTo pos (starEach [.Starred e sp] Φ.env)) []) _ _ _
    rw [hst]
    refine ks_call (P := MethP W.K s1.heap.objs.size fv X) rfl (keeps_M hk) (ks_lone (he' _ _ _ _ _ _ _ _ e2 S1' fun Y s2 ρ2 t2 S2 v2 => ?_))
    cases v2 with
    | tup hp hs =>
     have hlen := hs.length
     unfold StarOf notIterableAtAll
     refine wpAny_bind (wpAny_specialOf ⟨_, hp.1, rfl⟩ PySem.F.slot_tuple_iter.lookup (wpAny_pure ⟨rfl, ?_⟩))
     refine wpAny_collect_seq _ (.inr rfl) hp.1 rfl rfl (fun h' hkp => ?_) (by simp only [List.size_toArray]; rw [sizeLine_eq]; omega)
     obtain ⟨t3, S3⟩ := S2.keptH (tk := s2.toks) hkp
     have ho2 := hkp _ _ (t2.keep _ _ ho1 nM).1
     refine ⟨⟨ho2, S3.KI O⟩, wpAny_call (method_call ho2 ?_)⟩
     exact hc Φ O hn _ _ _ _ _ _ _ _ _ e3 S3 (.cons (t3.mono (t2.mono (k1.stp.mono v1))) (t3.monos hs)) fun Z s4 ρ4 t4 S4 v4 => k _ _ _ ((((t1.trans k1.stp).trans t2).trans t3).trans t4) S4 v4
   ·cases e3
  | _ => cases e3
 ·cases hf
noncomputable def notA (t : TF) : EF := fun loc H => (t loc H).map fun p => (.bool (!p.1), p.2)
theorem se_notA {C g : Addr} {n : Nat} {F} (O : Φ.Ok W) (hn : n + 1 < Φ.lv) (hc : CallOk W n (.ref g) F) (hs : findIn W.K (.ref C) "__len__" = some (some (.ref g))) (hb : findIn W.K (.ref C) "__bool__" = some none) (ht : typeIn W.K (.ref g) = some (.type "function")) {e : Expr} {pos : Pos} {f : EF} (he : SE W Φ e f) :
  SE W Φ (.UnaryOp .Not e pos) (notA (testA C F f)) := fun loc H v H' ρ s Q E hf S k => by
 unfold notA testA at hf
 refine omp2 hf fun b H3 e0 hf => ?_
 replace k := k.of hf
 refine obp2 e0 fun u H1 e1 hf1 => ?_
 refine obp2 hf1 fun u2 H2 e2 hf2 => ?_
 obtain ⟨_, m, -, rfl⟩ := lenA_int e2
 cases hf2
 refine wpAny_UnaryOp (he _ _ _ _ _ _ _ _ e1 S fun X s1 ρ1 t1 S1 v1 => ?_)
 unfold unaryOp
 refine wpAny_holding ?_
 dsimp only
 rw [if_pos (by decide)]
 exact wpAny_bind (wp_truthA O hn hc hs hb ht e2 S1 v1 fun s2 ρ2 t2 S2 => wpAny_pure (k _ _ _ (t1.trans t2) S2 (.bool _)))
theorem sx_none {t : Sem Flow} : SX W Φ t (fun _ _ => none) := fun loc H r loc' H' ρ s Q E hf S k => by cases hf
end
section
variable {w : World} {p : Program} {loose : List Str} {mean : ExcName → Option Value} {mg mb : Str → Option Value}
theorem boot_str : bootBuiltins "str" = some (.type "str") := by kernel_rfl
end
noncomputable def P167 : { B : SF // ∀ w p loose mean mg mb, FnOk (Wc w p loose mean mg mb) 2 (.ref 167) (bodyF [("self", none)] (bindP ["self"]) B) } := by
 refine ⟨?B, fun w p loose mean mg mb => fn_ok (fo := ?fo) (fd := ?fd) (body := ?body) ?ho ?hd ?hb ?hcl ?hgl ?hbi ?hcd ?hco ?hgen ?hk ?hbind ?hbody⟩
 case ho => exact rfl
 case hd => exact rfl
 case hb => exact rfl
 case hcl => rfl
 case hgl => rfl
 case hbi => rfl
 case hcd => rfl
 case hco => rfl
 case hgen => rfl
 case hk => decide
 case hbind => exact bnd1 (fun X => rfl) (by decide)
 case hbody =>
  intro A g L base fr O
  refine' sx_cons (sx_return (se_and (se_cmp (se_attr' O (se_name O 0 rfl rfl) get178) se_int (op_eq O)) (se_or (se_notA (C := 178) (n := 0) O (by show 0 + 1 < 2; omega) f145.call (by rfl) (by rfl) (by rfl) (se_name O 0 rfl rfl)) ?sp))) sx_nil
  case sp =>
   refine' se_meth (n := 1) O (Nat.lt_succ_self 1) (se_call (n := 1) O (Nat.lt_succ_self 1) (sn_builtin O (by rfl) boot_str (by decide) (by rfl) (by rfl)) (.ty _) (sl_cons (se_name O 0 rfl rfl) sl_nil) (c_strA (C := 178) (f := 152) f152.call (by rfl) (by rfl)) (.cons rfl rfl) rfl) sg_isspace (.bi _) sl_nil .nil c_space ?g4
   case g4 => rfl
noncomputable def F167 : List V → List AO → Option (V × List AO) := bodyF [("self", none)] (bindP ["self"]) P167.1
section
variable {w : World} {p : Program} {loose : List Str} {mean : ExcName → Option Value} {mg mb : Str → Option Value}
theorem f167 : FnOk (Wc w p loose mean mg mb) 2 (.ref 167) F167 := P167.2 _ _ _ _ _ _
end
end
end
section
section
section
variable {w : World} {p : Program} {loose : List Str} {mean : ExcName → Option Value} {mg mb : Str → Option Value}
theorem set94a : SetOk (Wc w p loose mean mg mb) 94 "_maxlen" := setOk_plain (by rfl) (by rfl) (by rfl) (by rfl)
theorem set94b : SetOk (Wc w p loose mean mg mb) 94 "_continuation_ws" := setOk_plain (by rfl) (by rfl) (by rfl) (by rfl)
theorem set94c : SetOk (Wc w p loose mean mg mb) 94 "_continuation_ws_len" := setOk_plain (by rfl) (by rfl) (by rfl) (by rfl)
theorem set94d : SetOk (Wc w p loose mean mg mb) 94 "_splitchars" := setOk_plain (by rfl) (by rfl) (by rfl) (by rfl)
theorem set94e : SetOk (Wc w p loose mean mg mb) 94 "_lines" := setOk_plain (by rfl) (by rfl) (by rfl) (by rfl)
theorem set94f : SetOk (Wc w p loose mean mg mb) 94 "_current_line" := setOk_plain (by rfl) (by rfl) (by rfl) (by rfl)
theorem get94a : GetOk (Wc w p loose mean mg mb) 94 "_maxlen" := getOk_plain (by rfl) (by rfl) (by rfl)
theorem get94d : GetOk (Wc w p loose mean mg mb) 94 "_splitchars" := getOk_plain (by rfl) (by rfl) (by rfl)
theorem get94e : GetOk (Wc w p loose mean mg mb) 94 "_lines" := getOk_plain (by rfl) (by rfl) (by rfl)
theorem get94f : GetOk (Wc w p loose mean mg mb) 94 "_current_line" := getOk_plain (by rfl) (by rfl) (by rfl)
theorem sg94 {f : Addr} {name : Str} (hf : findIn (Wc w p loose mean mg mb).K (.ref 94) name = some (some (.ref f))) (ht : typeIn (Wc w p loose mean mg mb).K (.ref f) = some (.type "function")) : SGm (Wc w p loose mean mg mb) name (.ref f) (isInst 94 name) :=
 sg_fn (ga := "object.__getattribute__") (by rfl) (by decide +kernel) (by rfl) hf ht
end
noncomputable abbrev n35 : List (Str × Option Nat) := [("self", none), ("headerlen", none), ("maxlen", none), ("continuation_ws", none), ("splitchars", none)]
noncomputable abbrev a35 : List Str := ["self", "headerlen", "maxlen", "continuation_ws", "splitchars"]
noncomputable def P35 : { B : SF // ∀ w p loose mean mg mb, FnOk (Wc w p loose mean mg mb) 2 (.ref 35) (bodyF n35 (bindP a35) B) } := by
 refine ⟨?B, fun w p loose mean mg mb => fn_ok (fo := ?fo) (fd := ?fd) (body := ?body) ?ho ?hd ?hb ?hcl ?hgl ?hbi ?hcd ?hco ?hgen ?hk ?hbind ?hbody⟩
 case ho => exact rfl
 case hd => exact rfl
 case hb => exact rfl
 case hcl => rfl
 case hgl => rfl
 case hbi => rfl
 case hcd => rfl
 case hco => rfl
 case hgen => rfl
 case hk => decide
 case hbind => exact bndG (lnS fun _ => lnS fun _ => lnS fun _ => lnS fun _ => lnS fun _ => ln0 rfl) (by decide)
 case hbody =>
  intro A g L base fr O
  refine' sx_cons (sx_setattr O (se_name O 2 rfl rfl) (se_name O 0 rfl rfl) set94a (by rfl)) (sx_cons (sx_setattr O (se_name O 3 rfl rfl) (se_name O 0 rfl rfl) set94b (by rfl)) (sx_cons (sx_setattr O ?ln (se_name O 0 rfl rfl) set94c (by rfl)) (sx_cons (sx_setattr O (se_name O 4 rfl rfl) (se_name O 0 rfl rfl) set94d (by rfl)) (sx_cons (sx_setattr O (se_list_ref sl_nil) (se_name O 0 rfl rfl) set94e (by rfl)) (sx_cons (sx_setattr O ?ac (se_name O 0 rfl rfl) set94f (by rfl)) sx_nil)))))
  case ln => exact se_call (n := 0) O (by show 0 < 2; omega) (sn_builtin O (by rfl) boot_len (by decide) (by rfl) (by rfl)) (.bi _) (sl_cons (se_name O 3 rfl rfl) sl_nil) c_len (.cons rfl rfl) rfl
  case ac => exact se_call (n := 1) O (by show 1 < 2; omega) (sn_global O (by rfl) (by rfl) (by rfl)) (.ref (by rfl)) (sl_cons (se_name O 1 rfl rfl) sl_nil) c178.call (.cons rfl rfl) rfl
noncomputable def F35 : List V → List AO → Option (V × List AO) := bodyF n35 (bindP a35) P35.1
section
variable {w : World} {p : Program} {loose : List Str} {mean : ExcName → Option Value} {mg mb : Str → Option Value}
theorem f35 : FnOk (Wc w p loose mean mg mb) 2 (.ref 35) F35 := P35.2 _ _ _ _ _ _
noncomputable def F94 : List V → List AO → Option (V × List AO) := fun args H => if args.length ≤ 4 then newF (.inst 94 none []) F35 args H else none
theorem c94 : FnOk (Wc w p loose mean mg mb) 3 (.ref 94) F94 :=
 cls_ok 4 (C := 94) f35 (o := .inst 94 none []) (od := { cls := .ref 94, data := .plain }) (fun P ρ h x d h1 h2 => ⟨d, [], 0, rfl, h2, h1, .nil⟩) (fun d => rfl) fun A rest R s hlen KI hq => by
  obtain ⟨hh, g, d, t, os⟩ := s
  exact make_core (makes_of KI makes94) (looks_findIn KI (by rfl)) (fun self => bind_fn KI self (by rfl)) (.inl rfl) hq
end
end
end
section
section
noncomputable abbrev n122 : List (Str × Option Nat) := [("self", none), ("fws", none), ("string", none)]
noncomputable def P122 : { B : SF // ∀ w p loose mean mg mb, FnOk (Wc w p loose mean mg mb) 1 (.ref 122) (bodyF n122 (bindP ["self", "fws", "string"]) B) } := by
 refine ⟨?B, fun w p loose mean mg mb => fn_ok (fo := ?fo) (fd := ?fd) (body := ?body) ?ho ?hd ?hb ?hcl ?hgl ?hbi ?hcd ?hco ?hgen ?hk ?hbind ?hbody⟩
 case ho => exact rfl
 case hd => exact rfl
 case hb => exact rfl
 case hcl => rfl
 case hgl => rfl
 case hbi => rfl
 case hcd => rfl
 case hco => rfl
 case hgen => rfl
 case hk => decide
 case hbind => exact bnd3 (fun X Y Z => rfl) (by decide) (by decide) (by decide)
 case hbody =>
  intro A g L base fr O
  refine' sx_cons (sx_expr ?m1 (by rfl) (by rfl)) sx_nil
  case m1 =>
   refine' se_meth (n := 0) O (Nat.lt_succ_self 0) (se_name O 0 rfl rfl) (sgb178 (b := "list.append") ?g1 ?g2) (.bi _) (sl_cons (se_tuple (sl_cons (se_name O 1 rfl rfl) (sl_cons (se_name O 2 rfl rfl) sl_nil))) sl_nil) (.cons rfl rfl) (c_appA sub178) ?g4
   case g1 => rfl
   case g2 => rfl
   case g4 => rfl
noncomputable def F122 : List V → List AO → Option (V × List AO) := bodyF n122 (bindP ["self", "fws", "string"]) P122.1
section
variable {w : World} {p : Program} {loose : List Str} {mean : ExcName → Option Value} {mg mb : Str → Option Value}
theorem k122 : FnOk (Wc w p loose mean mg mb) 1 (.ref 122) F122 := P122.2 _ _ _ _ _ _
end
noncomputable abbrev n130 : List (Str × Option Nat) := [("self", none), ("i", none), ("popped", none)]
noncomputable def P130 : { B : SF // ∀ w p loose mean mg mb, FnOk (Wc w p loose mean mg mb) 1 (.ref 130) (bodyF n130 (bindD "self" "i" (.int 0)) B) } := by
 refine ⟨?B, fun w p loose mean mg mb => fn_ok (fo := ?fo) (fd := ?fd) (body := ?body) ?ho ?hd ?hb ?hcl ?hgl ?hbi ?hcd ?hco ?hgen ?hk ?hbind ?hbody⟩
 case ho => exact rfl
 case hd => exact rfl
 case hb => exact rfl
 case hcl => rfl
 case hgl => rfl
 case hbi => rfl
 case hcd => rfl
 case hco => rfl
 case hgen => rfl
 case hk => decide
 case hbind => exact bndD rfl rfl rfl (fun _ _ => .int 0 _) (fun X => ⟨_, rfl, rfl⟩) (fun X Y => ⟨_, rfl, rfl⟩) (by decide) (by decide)
 case hbody =>
  intro A g L base fr O
  refine' sx_cons (sx_assign O 2 rfl ?m1 (fun h => absurd rfl h) (by rfl)) (sx_cons ?m2 (sx_cons (sx_return (se_name O 2 rfl rfl)) sx_nil))
  case m1 => exact se_sliceA O sub178 (se_name O 0 rfl rfl) (sp_some (se_name O 1 rfl rfl)) sp_none sp_none (fun _ _ => ⟨_, rfl⟩)
  case m2 => exact sx_setslice O sub178 (se_list sl_nil) (se_name O 0 rfl rfl) (sp_some (se_name O 1 rfl rfl)) sp_none (by rfl)
noncomputable def F130 : List V → List AO → Option (V × List AO) := bodyF n130 (bindD "self" "i" (.int 0)) P130.1
section
variable {w : World} {p : Program} {loose : List Str} {mean : ExcName → Option Value} {mg mb : Str → Option Value}
theorem k130 : FnOk (Wc w p loose mean mg mb) 1 (.ref 130) F130 := P130.2 _ _ _ _ _ _
end
noncomputable abbrev n160 : List (Str × Option Nat) := [("self", none), ("startval", none)]
noncomputable def P160 : { B : SF // ∀ w p loose mean mg mb, FnOk (Wc w p loose mean mg mb) 0 (.ref 160) (bodyF n160 (bindD "self" "startval" .none) B) } := by
 refine ⟨?B, fun w p loose mean mg mb => fn_ok (fo := ?fo) (fd := ?fd) (body := ?body) ?ho ?hd ?hb ?hcl ?hgl ?hbi ?hcd ?hco ?hgen ?hk ?hbind ?hbody⟩
 case ho => exact rfl
 case hd => exact rfl
 case hb => exact rfl
 case hcl => rfl
 case hgl => rfl
 case hbi => rfl
 case hcd => rfl
 case hco => rfl
 case hgen => rfl
 case hk => decide
 case hbind => exact bndD rfl rfl rfl (fun _ _ => .none) (fun X => ⟨_, rfl, rfl⟩) (fun X Y => ⟨_, rfl, rfl⟩) (by decide) (by decide)
 case hbody =>
  intro A g L base fr O
  refine' sx_cons (sx_if (sb_cmp (se_name O 1 rfl rfl) se_none op_is) (sx_cons (sx_assign O 1 rfl (se_list sl_nil) (fun h => absurd rfl h) (by rfl)) sx_nil) sx_nil) (sx_cons ?m1 (sx_cons ?m2 sx_nil))
  case m1 => exact sx_setslice O sub178 (se_name O 1 rfl rfl) (se_name O 0 rfl rfl) sp_none sp_none (by rfl)
  case m2 => exact sx_setattr O se_int (se_name O 0 rfl rfl) set178 (by rfl)
noncomputable def F160 : List V → List AO → Option (V × List AO) := bodyF n160 (bindD "self" "startval" .none) P160.1
section
variable {w : World} {p : Program} {loose : List Str} {mean : ExcName → Option Value} {mg mb : Str → Option Value}
theorem k160 : FnOk (Wc w p loose mean mg mb) 0 (.ref 160) F160 := P160.2 _ _ _ _ _ _
end
noncomputable abbrev n56 : List (Str × Option Nat) := [("self", none), ("end_of_line", none)]
noncomputable def P56 : { B : SF // ∀ w p loose mean mg mb, FnOk (Wc w p loose mean mg mb) 3 (.ref 56) (bodyF n56 (bindP ["self"]) B) } := by
 refine ⟨?B, fun w p loose mean mg mb => fn_ok (fo := ?fo) (fd := ?fd) (body := ?body) ?ho ?hd ?hb ?hcl ?hgl ?hbi ?hcd ?hco ?hgen ?hk ?hbind ?hbody⟩
 case ho => exact rfl
 case hd => exact rfl
 case hb => exact rfl
 case hcl => rfl
 case hgl => rfl
 case hbi => rfl
 case hcd => rfl
 case hco => rfl
 case hgen => rfl
 case hk => decide
 case hbind => exact bnd1 (fun X => rfl) (by decide)
 case hbody =>
  intro A g L base fr O
  refine' sx_cons (sx_assign O 1 rfl ?m1 (fun h => absurd rfl h) (by rfl)) (sx_cons (sx_if (sb_cmp (se_name O 1 rfl rfl) (se_tuple (sl_cons se_str (sl_cons se_str sl_nil))) (op_ne O)) (sx_cons (sx_expr ?m2 (by rfl) (by rfl)) sx_nil) sx_nil) (sx_cons (sx_if (sb_cmp ?m3 se_int op_gt) (sx_cons (sx_if (sb_and (sb_val ?m4) (sb_val (se_attr' O (se_name O 0 rfl rfl) get94e))) sx_none (sx_cons (sx_expr ?m5 (by rfl) (by rfl)) sx_nil)) sx_nil) sx_nil) (sx_cons (sx_expr ?m6 (by rfl) (by rfl)) sx_nil)))
  case m1 =>
   refine' se_meth (n := 1) O (by show 1 < 3; omega) (se_attr' O (se_name O 0 rfl rfl) get94f) (sg178 (f := 138) ?g1 ?g2) (.ref ?g3) sl_nil .nil f138s.call ?g4
   case g1 => rfl
   case g2 => rfl
   case g3 => rfl
   case g4 => rfl
  case m2 =>
   refine' se_methStar (n := 1) O (by show 1 < 3; omega) (se_attr' O (se_name O 0 rfl rfl) get94f) (sgb_sub (C := 178) (f := 122) ?h1 ?h2 ?h3 ?h4 ?h5 ?h6 ?h7 ?h8 ?h9) ?g3 (se_name O 1 rfl rfl) k122 ?g4 ?g5
   case h1 => rfl
   case h2 => rfl
   case h3 => rfl
   case h4 => rfl
   case h5 => rfl
   case h6 => rfl
   case h7 => rfl
   case h8 => rfl
   case h9 => rfl
   case g3 => rfl
   case g4 => rfl
   case g5 => rfl
  case m3 => exact se_call (n := 1) O (by show 1 < 3; omega) (sn_builtin O (by rfl) boot_len (by decide) (by rfl) (by rfl)) (.bi _) (sl_cons (se_attr' O (se_name O 0 rfl rfl) get94f) sl_nil) (c_lenA (C := 178) (f := 145) f145.call (by rfl) (by rfl)) (.cons rfl rfl) rfl
  case m4 =>
   refine' se_meth (n := 2) O (by show 2 < 3; omega) (se_attr' O (se_name O 0 rfl rfl) get94f) (sg178 (f := 167) ?g1 ?g2) (.ref ?g3) sl_nil .nil f167.call ?g4
   case g1 => rfl
   case g2 => rfl
   case g3 => rfl
   case g4 => rfl
  case m5 =>
   refine' se_meth (n := 0) O (by show 0 < 3; omega) (se_attr' O (se_name O 0 rfl rfl) get94e) (sg_list PySem.F.slot_list_append PySem.F.type_list_append) (.bi _) (sl_cons (se_call (n := 1) O (by show 1 < 3; omega) (sn_builtin O (by rfl) boot_str (by decide) (by rfl) (by rfl)) (.ty _) (sl_cons (se_attr' O (se_name O 0 rfl rfl) get94f) sl_nil) (c_strA (C := 178) (f := 152) f152.call (by rfl) (by rfl)) (.cons rfl rfl) rfl) sl_nil) (.cons rfl rfl) c_append ?g4
   case g4 => rfl
  case m6 =>
   refine' se_meth (n := 0) O (by show 0 < 3; omega) (se_attr' O (se_name O 0 rfl rfl) get94f) (sg178 (f := 160) ?g1 ?g2) (.ref ?g3) sl_nil .nil k160.call ?g4
   case g1 => rfl
   case g2 => rfl
   case g3 => rfl
   case g4 => rfl
noncomputable def F56 : List V → List AO → Option (V × List AO) := bodyF n56 (bindP ["self"]) P56.1
section
variable {w : World} {p : Program} {loose : List Str} {mean : ExcName → Option Value} {mg mb : Str → Option Value}
theorem k56 : FnOk (Wc w p loose mean mg mb) 3 (.ref 56) F56 := P56.2 _ _ _ _ _ _
end
noncomputable abbrev n42 : List (Str × Option Nat) := [("self", none), ("linesep", none)]
noncomputable def P42 : { B : SF // ∀ w p loose mean mg mb, FnOk (Wc w p loose mean mg mb) 4 (.ref 42) (bodyF n42 (bindP ["self", "linesep"]) B) } := by
 refine ⟨?B, fun w p loose mean mg mb => fn_ok (fo := ?fo) (fd := ?fd) (body := ?body) ?ho ?hd ?hb ?hcl ?hgl ?hbi ?hcd ?hco ?hgen ?hk ?hbind ?hbody⟩
 case ho => exact rfl
 case hd => exact rfl
 case hb => exact rfl
 case hcl => rfl
 case hgl => rfl
 case hbi => rfl
 case hcd => rfl
 case hco => rfl
 case hgen => rfl
 case hk => decide
 case hbind => exact bnd2 (fun X Y => rfl) (by decide) (by decide)
 case hbody =>
  intro A g L base fr O
  refine' sx_cons (sx_expr ?m1 (by rfl) (by rfl)) (sx_cons (sx_return ?m2) sx_nil)
  case m1 =>
   refine' se_meth (n := 3) O (by show 3 < 4; omega) (se_name O 0 rfl rfl) (sg94 (f := 56) ?g1 ?g2) (.ref ?g3) sl_nil .nil k56.call ?g4
   case g1 => rfl
   case g2 => rfl
   case g3 => rfl
   case g4 => rfl
  case m2 =>
   refine' se_meth (n := 0) O (by show 0 < 4; omega) (se_name O 1 rfl rfl) sg_join (.bi _) (sl_cons (se_attr' O (se_name O 0 rfl rfl) get94e) sl_nil) (.cons rfl rfl) c_join ?g4
   case g4 => rfl
noncomputable def F42 : List V → List AO → Option (V × List AO) := bodyF n42 (bindP ["self", "linesep"]) P42.1
section
variable {w : World} {p : Program} {loose : List Str} {mean : ExcName → Option Value} {mg mb : Str → Option Value}
theorem k42 : FnOk (Wc w p loose mean mg mb) 4 (.ref 42) F42 := P42.2 _ _ _ _ _ _
end
end
end
section
section
noncomputable abbrev n91 : List (Str × Option Nat) := [("self", none), ("fws", none), ("string", none), ("ch", none), ("i", none), ("prevpart", none), ("part", none), ("remainder", none)]
noncomputable def P91 : { B : SF // ∀ w p loose mean mg mb, FnOk (Wc w p loose mean mg mb) 4 (.ref 91) (bodyF n91 (bindP ["self", "fws", "string"]) B) } := by
 refine ⟨?B, fun w p loose mean mg mb => fn_ok (fo := ?fo) (fd := ?fd) (body := ?body) ?ho ?hd ?hb ?hcl ?hgl ?hbi ?hcd ?hco ?hgen ?hk ?hbind ?hbody⟩
 case ho => exact rfl
 case hd => exact rfl
 case hb => exact rfl
 case hcl => rfl
 case hgl => rfl
 case hbi => rfl
 case hcd => rfl
 case hco => rfl
 case hgen => rfl
 case hk => decide
 case hbind => exact bnd3 (fun X Y Z => rfl) (by decide) (by decide) (by decide)
 case hbody =>
  intro A g L base fr O
  refine' sx_cons (sx_expr ?p1 (by rfl) (by rfl)) (sx_cons (sx_if (sb_cmp ?ln (se_attr' O (se_name O 0 rfl rfl) get94a) op_gt) (sx_cons ?outer (sx_cons (sx_assign O 7 rfl ?pf (fun h => absurd rfl h) (by rfl)) (sx_cons (sx_expr ?ap (by rfl) (by rfl)) (sx_cons (sx_expr ?rs (by rfl) (by rfl)) sx_nil)))) sx_nil) sx_nil)
  case p1 =>
   refine' se_meth (n := 1) O (by show 1 < 4; omega) (se_attr' O (se_name O 0 rfl rfl) get94f) (sg178 (f := 122) ?g1 ?g2) (.ref ?g3) (sl_cons (se_name O 1 rfl rfl) (sl_cons (se_name O 2 rfl rfl) sl_nil)) (.cons rfl rfl) k122.call ?g4
   case g1 => rfl
   case g2 => rfl
   case g3 => rfl
   case g4 => rfl
  case ln => exact se_call (n := 1) O (by show 1 < 4; omega) (sn_builtin O (by rfl) boot_len (by decide) (by rfl) (by rfl)) (.bi _) (sl_cons (se_attr' O (se_name O 0 rfl rfl) get94f) sl_nil) (c_lenA (C := 178) (f := 145) f145.call (by rfl) (by rfl)) (.cons rfl rfl) rfl
  case pf =>
   refine' se_meth (n := 1) O (by show 1 < 4; omega) (se_attr' O (se_name O 0 rfl rfl) get94f) (sg178 (f := 130) ?g1 ?g2) (.ref ?g3) (sl_cons (se_name O 4 rfl rfl) sl_nil) (.cons rfl rfl) k130.call ?g4
   case g1 => rfl
   case g2 => rfl
   case g3 => rfl
   case g4 => rfl
  case ap =>
   refine' se_meth (n := 0) O (by show 0 < 4; omega) (se_attr' O (se_name O 0 rfl rfl) get94e) (sg_list PySem.F.slot_list_append PySem.F.type_list_append) (.bi _) (sl_cons (se_call (n := 1) O (by show 1 < 4; omega) (sn_builtin O (by rfl) boot_str (by decide) (by rfl) (by rfl)) (.ty _) (sl_cons (se_attr' O (se_name O 0 rfl rfl) get94f) sl_nil) (c_strA (C := 178) (f := 152) f152.call (by rfl) (by rfl)) (.cons rfl rfl) rfl) sl_nil) (.cons rfl rfl) c_append ?g4
   case g4 => rfl
  case rs =>
   refine' se_meth (n := 0) O (by show 0 < 4; omega) (se_attr' O (se_name O 0 rfl rfl) get94f) (sg178 (f := 160) ?g1 ?g2) (.ref ?g3) (sl_cons (se_name O 7 rfl rfl) sl_nil) (.cons rfl rfl) k160.call ?g4
   case g1 => rfl
   case g2 => rfl
   case g3 => rfl
   case g4 => rfl
  case outer =>
   refine' sx_for (tgt := fun _ => True) O trivial (sq_val (se_attr' O (se_name O 0 rfl rfl) get94d)) (sa_name O 3 rfl (fun h => absurd rfl h)) (sx_cons ?inner (sx_cons sx_break sx_nil)) ?els (fun _ => rfl)
   case inner =>
    refine' sx_for (tgt := fun _ => True) O trivial ?rg (sa_name O 4 rfl (fun h => absurd rfl h)) (sx_cons (sx_if ?sp (sx_cons (sx_assign O 1 rfl (se_sub (se_sub (se_attr' O (se_name O 0 rfl rfl) get94f) (se_name O 4 rfl rfl) (op_idxA O sub178 (fun _ _ => by with_unfolding_all rfl))) se_int (op_idx (fun _ _ => by with_unfolding_all rfl))) (fun h => absurd rfl h) (by rfl)) (sx_cons (sx_if (sb_and (sb_val (se_name O 1 rfl rfl)) (sb_cmp (se_sub (se_name O 1 rfl rfl) se_int (op_idx (fun _ _ => by with_unfolding_all rfl))) (se_name O 3 rfl rfl) (op_eq O))) (sx_cons sx_break sx_nil) sx_nil) sx_nil)) sx_nil) (sx_cons (sx_assign O 5 rfl (se_sub (se_sub (se_attr' O (se_name O 0 rfl rfl) get94f) (se_bin (se_name O 4 rfl rfl) se_int op_sub) (op_idxA O sub178 (fun _ _ => by with_unfolding_all rfl))) se_int (op_idx (fun _ _ => by with_unfolding_all rfl))) (fun h => absurd rfl h) (by rfl)) (sx_cons (sx_if (sb_and (sb_val (se_name O 5 rfl rfl)) (sb_cmp (se_sub (se_name O 5 rfl rfl) (se_neg se_int) (op_idx (fun _ _ => by with_unfolding_all rfl))) (se_name O 3 rfl rfl) (op_eq O))) (sx_cons sx_break sx_nil) sx_nil) sx_nil))) (sx_cons sx_continue sx_nil) (fun _ => rfl)
    case sp =>
     refine' sb_val (se_meth (n := 0) O (by show 0 < 4; omega) (se_name O 3 rfl rfl) sg_isspace (.bi _) sl_nil .nil c_space ?g4)
     case g4 => rfl
    case rg =>
     refine' sq_range O (sn_builtin O (by rfl) boot_range (by decide) (by rfl) (by rfl)) (sl_cons (se_bin ?pc se_int op_sub) (sl_cons se_int (sl_cons (se_neg se_int) sl_nil))) (.cons rfl rfl) rfl
     case pc =>
      refine' se_meth (n := 0) O (by show 0 < 4; omega) (se_attr' O (se_name O 0 rfl rfl) get94f) (sg178 (f := 175) ?g1 ?g2) (.ref ?g3) sl_nil .nil f175.call ?g4
      case g1 => rfl
      case g2 => rfl
      case g3 => rfl
      case g4 => rfl
   case els =>
    refine' sx_cons ?pp (sx_cons (sx_if (sb_cmp (se_attr' O (se_attr' O (se_name O 0 rfl rfl) get94f) get178) se_int op_gt) (sx_cons (sx_expr ?nl (by rfl) (by rfl)) (sx_cons (sx_if (sb_not (sb_val (se_name O 1 rfl rfl))) (sx_cons (sx_assign O 1 rfl se_str (fun h => absurd rfl h) (by rfl)) sx_nil) sx_nil) sx_nil)) sx_nil) (sx_cons (sx_expr ?p2 (by rfl) (by rfl)) (sx_cons sx_return_none sx_nil)))
    case pp =>
     refine' sx_assign_tup ?pop (sa_tup2 O (sa_name O 1 rfl (fun h => absurd rfl h)) (sa_name O 6 rfl (fun h => absurd rfl h)))
     case pop =>
      refine' se_meth (n := 1) O (by show 1 < 4; omega) (se_attr' O (se_name O 0 rfl rfl) get94f) (sg178 (f := 138) ?g1 ?g2) (.ref ?g3) sl_nil .nil f138s.call ?g4
      case g1 => rfl
      case g2 => rfl
      case g3 => rfl
      case g4 => rfl
    case nl =>
     refine' se_meth (n := 3) O (by show 3 < 4; omega) (se_name O 0 rfl rfl) (sg94 (f := 56) ?g1 ?g2) (.ref ?g3) sl_nil .nil k56.call ?g4
     case g1 => rfl
     case g2 => rfl
     case g3 => rfl
     case g4 => rfl
    case p2 =>
     refine' se_meth (n := 1) O (by show 1 < 4; omega) (se_attr' O (se_name O 0 rfl rfl) get94f) (sg178 (f := 122) ?g1 ?g2) (.ref ?g3) (sl_cons (se_name O 1 rfl rfl) (sl_cons (se_name O 6 rfl rfl) sl_nil)) (.cons rfl rfl) k122.call ?g4
     case g1 => rfl
     case g2 => rfl
     case g3 => rfl
     case g4 => rfl
noncomputable def F91 : List V → List AO → Option (V × List AO) := bodyF n91 (bindP ["self", "fws", "string"]) P91.1
section
variable {w : World} {p : Program} {loose : List Str} {mean : ExcName → Option Value} {mg mb : Str → Option Value}
theorem k91 : FnOk (Wc w p loose mean mg mb) 4 (.ref 91) F91 := P91.2 _ _ _ _ _ _
end
end
end
section
section
section
variable {prog : Program} {w : World} {A : Around} {E : Value → Shared → Prop} {s : Shared}
theorem tuple_lt_run {a b : Addr} {x y u v : Str} {t1 t2 t3 t4 : Tok} {n1 n2 : Nat} {P : PySem.Fin → Shared → Prop} (ha : s.heap.get? a = some { cls := .type "tuple", data := .seq #[.str x t1, .str y t2] n1 }) (hb : s.heap.get? b = some { cls := .type "tuple", data := .seq #[.str u t3, .str v t4] n2 })
  (hxu : (x == u) = true) (h : P (.done (.ret (.bool (if (y == v) = true then false else decide (y.cps.toList < v.cps.toList))))) s) : wpAny (model prog w) A (Builtin.«tuple.__lt__» ⟨[.ref a, .ref b], []⟩) P E s := by
 show wpAny _ _ (isInstance (.ref b) (.type "tuple") >>= _) _ _ s
 refine wpAny_bind (wpAny_isInstance (T := "tuple") ⟨_, hb, rfl⟩ AutoSeq1.sub_tuple_tuple ?_)
 simp only [Bool.not_true, Bool.false_eq_true, if_false]
 refine wpAny_bind (wpAny_tupleItemsOf ha rfl ?_)
 refine wpAny_bind (wpAny_tupleItemsOf hb rfl ?_)
 simp only [List.zip_cons_cons, List.zip_nil_right, List.forIn_cons, List.forIn_nil]
 refine wpAny_bind (wpAny_bind (wpAny_bind (eqBool_str ?_)))
 rw [hxu]
 simp only [Bool.not_true, Bool.false_eq_true, if_false]
 refine wpAny_pure ?_
 dsimp only
 refine wpAny_bind (wpAny_bind (eqBool_str ?_))
 cases hyv : y == v with
 | true =>
  rw [hyv] at h
  simp only [Bool.not_true, Bool.false_eq_true, if_false, if_true] at h ⊢
  refine wpAny_pure (wpAny_pure ?_)
  exact wpAny_pure h
 | false =>
  rw [hyv] at h
  simp only [Bool.not_false, if_true, Bool.false_eq_true, if_false] at h ⊢
  refine wpAny_bind (wpAny_rule (wpAny_bind (m := richCompare .Lt (.str y t2) (.str v t4)) ?_))
  show wpAny _ _ (compareOp .Lt (.str y t2) (.str v t4)) _ _ _
  refine PyProof.Rows.lt_str ?_
  refine wpAny_bind (wpAny_pure (wpAny_pure ?_))
  exact wpAny_pure (wpAny_pure h)
theorem tuple_gt_run {a b : Addr} {x y u v : Str} {t1 t2 t3 t4 : Tok} {n1 n2 : Nat} {P : PySem.Fin → Shared → Prop} (ha : s.heap.get? a = some { cls := .type "tuple", data := .seq #[.str x t1, .str y t2] n1 }) (hb : s.heap.get? b = some { cls := .type "tuple", data := .seq #[.str u t3, .str v t4] n2 })
  (hxu : (x == u) = true) (h : P (.done (.ret (.bool (if (y == v) = true then false else decide (v.cps.toList < y.cps.toList))))) s) : wpAny (model prog w) A (Builtin.«tuple.__gt__» ⟨[.ref a, .ref b], []⟩) P E s := by
 show wpAny _ _ (isInstance (.ref b) (.type "tuple") >>= _) _ _ s
 refine wpAny_bind (wpAny_isInstance (T := "tuple") ⟨_, hb, rfl⟩ AutoSeq1.sub_tuple_tuple ?_)
 simp only [Bool.not_true, Bool.false_eq_true, if_false]
 refine wpAny_bind (wpAny_tupleItemsOf ha rfl ?_)
 refine wpAny_bind (wpAny_tupleItemsOf hb rfl ?_)
 simp only [List.zip_cons_cons, List.zip_nil_right, List.forIn_cons, List.forIn_nil]
 refine wpAny_bind (wpAny_bind (wpAny_bind (eqBool_str ?_)))
 rw [hxu]
 simp only [Bool.not_true, Bool.false_eq_true, if_false]
 refine wpAny_pure ?_
 dsimp only
 refine wpAny_bind (wpAny_bind (eqBool_str ?_))
 cases hyv : y == v with
 | true =>
  rw [hyv] at h
  simp only [Bool.not_true, Bool.false_eq_true, if_false, if_true] at h ⊢
  refine wpAny_pure (wpAny_pure ?_)
  exact wpAny_pure h
 | false =>
  rw [hyv] at h
  simp only [Bool.not_false, if_true, Bool.false_eq_true, if_false] at h ⊢
  refine wpAny_bind (wpAny_rule (wpAny_bind (m := richCompare .Gt (.str y t2) (.str v t4)) ?_))
  show wpAny _ _ (compareOp .Gt (.str y t2) (.str v t4)) _ _ _
  refine PySem.P.gt_str ?_
  refine wpAny_bind (wpAny_pure (wpAny_pure ?_))
  exact wpAny_pure (wpAny_pure h)
end
section
variable {W : Wd} {Φ : Fx} {ρ ρ' : List Cell} {loc : Loc} {H H' : List AO} {s s' s0 : Shared}
noncomputable def ltG (g : Str → Str → Bool) (H : List AO) (a b : V) : Option (V × List AO) := (pairV a).bind fun p => (pairV b).bind fun q => if (p.1 == q.1) = true then some (.bool (if (p.2 == q.2) = true then false else g p.2 q.2), H) else none
noncomputable abbrev ltT := ltG fun y v => decide (y.cps.toList < v.cps.toList)
noncomputable abbrev gtT := ltG fun y v => decide (v.cps.toList < y.cps.toList)
theorem op_T {t : Value → Value → Sem Value} {g : Str → Str → Bool} (h : ∀ (a b : Addr) x y u v t1 t2 t3 t4 (Q E : Value → Shared → Prop) (s : Shared), s.heap.get? a = some (tupO [.str x t1, .str y t2]) → s.heap.get? b = some (tupO [.str u t3, .str v t4]) → (x == u) = true → Q (.bool (if (y == v) = true then false else g y v)) s → wpAny W.M Φ.A (t (.ref a) (.ref b)) Q E s) : S2 W Φ t (ltG g) := fun loc H a b vv H' X Y ρ s Q E hf S ha hb k => obp hf fun p e1 hf => obp hf fun q e2 hf => ifs hf fun hxu e => (ha.pair e1).elim fun a z => z.elim fun t1 z => z.elim fun t2 z => (hb.pair e2).elim fun b y => y.elim fun t3 y => y.elim fun t4 y => by
 rw [z.1, y.1]
 exact h _ _ _ _ _ _ _ _ _ _ _ _ _ z.2.1 y.2.1 hxu (k.of e _ _ ρ .refl S (.bool _))
theorem op_ltT (O : Φ.Ok W) : S2 W Φ (compareOp .Lt) ltT := op_T fun a b x y u v t1 t2 t3 t4 Q E s ha hb hxu k => by
 show wpAny _ _ (richCompare .Lt _ _) _ _ _
 exact wpAny_richCompare_same_room ⟨_, ha, rfl⟩ ⟨_, hb, rfl⟩ PySem.F.slot_tuple_lt (wpAny_call_entry PySem.F.slot_tuple_lt ⟨_, ha, rfl⟩ PySem.F.entry_tuple_lt (tuple_lt_run ha hb hxu ⟨_, rfl, nofun, k⟩) (PySem.F.args_tuple_lt_2 _ _)) (by have := O.units; omega)
theorem op_gtT (O : Φ.Ok W) : S2 W Φ (compareOp .Gt) gtT := op_T fun a b x y u v t1 t2 t3 t4 Q E s ha hb hxu k => by
 show wpAny _ _ (richCompare .Gt _ _) _ _ _
 exact wpAny_richCompare_same_room ⟨_, ha, rfl⟩ ⟨_, hb, rfl⟩ PySem.F.slot_tuple_gt (wpAny_call_entry PySem.F.slot_tuple_gt ⟨_, ha, rfl⟩ PySem.F.entry_tuple_gt (tuple_gt_run ha hb hxu ⟨_, rfl, nofun, k⟩) (PySem.F.args_tuple_gt_2 _ _)) (by have := O.units; omega)
end
noncomputable abbrev n203 : List (Str × Option Nat) := [("x", none), ("y", none)]
noncomputable def P203 : { B : SF // ∀ w p loose mean mg mb, FnOk (Wc w p loose mean mg mb) 0 (.ref 203) (bodyF n203 (bindP ["x", "y"]) B) } := by
 refine ⟨?B, fun w p loose mean mg mb => fn_ok (fo := ?fo) (fd := ?fd) (body := ?body) ?ho ?hd ?hb ?hcl ?hgl ?hbi ?hcd ?hco ?hgen ?hk ?hbind ?hbody⟩
 case ho => exact rfl
 case hd => exact rfl
 case hb => exact rfl
 case hcl => rfl
 case hgl => rfl
 case hbi => rfl
 case hcd => rfl
 case hco => rfl
 case hgen => rfl
 case hk => decide
 case hbind => exact bnd2 (fun X Y => rfl) (by decide) (by decide)
 case hbody =>
  intro A g L base fr O
  refine' sx_cons (sx_return (se_bin (se_cmp (se_name O 0 rfl rfl) (se_name O 1 rfl rfl) (op_gtT O)) (se_cmp (se_name O 0 rfl rfl) (se_name O 1 rfl rfl) (op_ltT O)) op_sub)) sx_nil
noncomputable def F203 : List V → List AO → Option (V × List AO) := bodyF n203 (bindP ["x", "y"]) P203.1
section
variable {w : World} {p : Program} {loose : List Str} {mean : ExcName → Option Value} {mg mb : Str → Option Value}
theorem k203 : FnOk (Wc w p loose mean mg mb) 0 (.ref 203) F203 := P203.2 _ _ _ _ _ _
end
noncomputable abbrev n210 : List (Str × Option Nat) := [("size", none)]
noncomputable def P210 : { B : SF // ∀ w p loose mean mg mb, FnOk (Wc w p loose mean mg mb) 0 (.ref 210) (bodyF n210 (bindP ["size"]) B) } := by
 refine ⟨?B, fun w p loose mean mg mb => fn_ok (fo := ?fo) (fd := ?fd) (body := ?body) ?ho ?hd ?hb ?hcl ?hgl ?hbi ?hcd ?hco ?hgen ?hk ?hbind ?hbody⟩
 case ho => exact rfl
 case hd => exact rfl
 case hb => exact rfl
 case hcl => rfl
 case hgl => rfl
 case hbi => rfl
 case hcd => rfl
 case hco => rfl
 case hgen => rfl
 case hk => decide
 case hbind => exact bnd1 (fun X => rfl) (by decide)
 case hbody =>
  intro A g L base fr O
  refine' sx_cons (sx_return (se_tuple (sl_cons (se_bin se_str (se_bin (se_name O 0 rfl rfl) se_int op_fdiv) op_mul) (sl_cons (se_bin se_str (se_bin (se_name O 0 rfl rfl) (se_bin (se_name O 0 rfl rfl) se_int op_fdiv) op_sub) op_mul) sl_nil)))) sx_nil
noncomputable def F210 : List V → List AO → Option (V × List AO) := bodyF n210 (bindP ["size"]) P210.1
section
variable {w : World} {p : Program} {loose : List Str} {mean : ExcName → Option Value} {mg mb : Str → Option Value}
theorem k210 : FnOk (Wc w p loose mean mg mb) 0 (.ref 210) F210 := P210.2 _ _ _ _ _ _
end
noncomputable abbrev n239 : List (Str × Option Nat) := [("row", none)]
noncomputable def P239 : { B : SF // ∀ w p loose mean mg mb, FnOk (Wc w p loose mean mg mb) 0 (.ref 239) (bodyF n239 (bindP ["row"]) B) } := by
 refine ⟨?B, fun w p loose mean mg mb => fn_ok (fo := ?fo) (fd := ?fd) (body := ?body) ?ho ?hd ?hb ?hcl ?hgl ?hbi ?hcd ?hco ?hgen ?hk ?hbind ?hbody⟩
 case ho => exact rfl
 case hd => exact rfl
 case hb => exact rfl
 case hcl => rfl
 case hgl => rfl
 case hbi => rfl
 case hcd => rfl
 case hco => rfl
 case hgen => rfl
 case hk => decide
 case hbind => exact bnd1 (fun X => rfl) (by decide)
 case hbody =>
  intro A g L base fr O
  refine' sx_cons (sx_return (se_comp (tgt := fun _ => True) O true ?c)) sx_nil
  case c => exact (ct2 (tgt1 := fun _ => True) (ys := ["x", "_"]) (cs := []) (cb_of (by rfl) (by rfl) (by rfl) (by rfl) (by rfl) (fun i h => by cases h) (by rfl)) trivial (sq_val (se_name O 0 rfl rfl)) (fun _ => rfl)
   (fun g' C OΨ => sa_name OΨ 0 rfl (fun h => absurd rfl h)) (fun _ _ _ => sc_nil) trivial
   (fun g' C OΨ => sq_range OΨ (sn_builtin OΨ (by rfl) boot_range (by decide) (by rfl) (by rfl)) (sl_cons (se_bin se_int (se_bin (se_name OΨ 0 rfl rfl) se_int op_fmod) op_sub) sl_nil) (.cons rfl rfl) rfl) (fun _ _ _ _ => rfl)
   (fun g' C OΨ => sa_name OΨ 1 rfl (fun h => absurd rfl h)) (fun _ _ _ => sc_nil) (fun g' C OΨ => se_name OΨ 0 rfl rfl) (keeps_name (by decide)) (keeps_name (by decide)))
noncomputable def F239 : List V → List AO → Option (V × List AO) := bodyF n239 (bindP ["row"]) P239.1
section
variable {w : World} {p : Program} {loose : List Str} {mean : ExcName → Option Value} {mg mb : Str → Option Value}
theorem k239 : FnOk (Wc w p loose mean mg mb) 0 (.ref 239) F239 := P239.2 _ _ _ _ _ _
end
section
variable {W : Wd} {Φ : Fx} {ρ ρ' : List Cell} {loc : Loc} {H H' : List AO} {s s' : Shared}
noncomputable def frameG (F : List V → List AO → Option (V × List AO)) : List V → List AO → Option (V × List AO) := fun args H =>
 if args.all (lowV 0 8) then (frzG F args []).map fun q => (q.1, H) else none
theorem allM_all {f : V → Option V} {g : V → Bool} (h : ∀ v u, f v = some u → g u = true) (xs : List V) : ∀ {ys : List V}, allM f xs = some ys → ys.all g = true :=
 List.rec (motive := fun xs => ∀ {ys : List V}, allM f xs = some ys → ys.all g = true) (fun {_} e => Option.some.inj e ▸ rfl) (fun x xs ih {_} e => obp e fun y e1 e => omp e fun zs e2 q => q ▸ Bool.and_eq_true_iff.mpr ⟨h _ _ e1, ih e2⟩) xs
theorem frzV_low {H : List AO} (k : Nat) : ∀ {v u : V}, frzV 0 H k v = some u → lowV 0 k u = true := by
 induction k with
 | zero => exact nn
 | succ k ih =>
  have all := fun {xs ys} (e : allM (frzV 0 H k) xs = some ys) => allM_all (g := lowV 0 k) (fun _ _ q => ih q) xs e
  exact fun {v u} => V.casesOn (motive_1 := fun v => frzV 0 H (k + 1) v = some u → lowV 0 (k + 1) u = true) v (fun e => Option.some.inj e ▸ rfl) (fun _ e => Option.some.inj e ▸ rfl) (fun _ e => Option.some.inj e ▸ rfl) (fun _ e => Option.some.inj e ▸ rfl) (fun _ e => omp e fun ys e1 q => q ▸ all e1) (fun _ e => omp e fun ys e1 q => q ▸ all e1)
   (fun i e => listAt_is ((if_neg (t := some (V.ref i)) (Nat.not_lt_zero i)).symm.trans e) fun xs _ e => omp e fun ys e1 q => q ▸ all e1) (fun _ _ e => Option.some.inj e ▸ rfl) (fun _ e => Option.some.inj e ▸ rfl) (fun _ e => Option.some.inj e ▸ rfl)
theorem frzG_low {F : List V → List AO → Option (V × List AO)} {args : List V} {v : V} {H1 : List AO} (e : frzG F args [] = some (v, H1)) : H1 = [] ∧ lowV 0 8 v = true := obp2 e fun u H2 _ e => ifo e fun _ e => omp e fun w e1 q => by
 cases q
 exact ⟨rfl, frzV_low 8 e1⟩
noncomputable def Fx.hide (Φ : Fx) (ρ : List Cell) (h : Heap) : Fx := { Φ with base := ⟨Φ.base.b, mutA ρ ++ Φ.base.X, h, Φ.base.F.filter fun a => !(mutA ρ).contains a⟩ }
theorem hide_M (Φ : Fx) (ρ : List Cell) (h : Heap) (a : Addr) : a ∈ (Φ.hide ρ h).M [] ↔ a ∈ Φ.M ρ := by
 unfold Fx.M Fx.T Fx.hide Fx.cells mutA
 simp only [List.mem_cons, List.mem_append, List.flatMap_nil, List.not_mem_nil, false_or]
 constructor
 ·rintro (h | h | h | h | h) <;> simp [h]
 ·rintro (h | h | h | h | h) <;> simp [h]
theorem hide_up {h h' : Heap} {a : Addr} {f : Addr → Bool} (u : ∃ o o', h.get? a = some o ∧ h'.get? a = some o' ∧ o'.data = o.data ∧ (o' = o ∨ a ∈ Φ.base.F.filter f)) : ∃ o o', h.get? a = some o ∧ h'.get? a = some o' ∧ o'.data = o.data ∧ (o' = o ∨ a ∈ Φ.base.F) :=
 let ⟨o, o', e1, e2, e3, e4⟩ := u; ⟨o, o', e1, e2, e3, e4.imp id fun q => (List.mem_filter.mp q).1⟩
noncomputable def SlotIs (Φ : Fx) (m : Str → Option Value) (h : Heap) (i : Nat) (X : Value) : Prop := ∃ x k, Φ.names[i]? = some (x, k) ∧ handedIn X = true ∧ SlotV k m h x X
theorem SlotV.uniq {k : Option Addr} {m : Str → Option Value} {h : Heap} {x : Str} {X Y : Value} (a : SlotV k m h x X) (b : SlotV k m h x Y) : X = Y := by
 cases k with
 | none => exact Option.some.inj (a.symm.trans b)
 | some c =>
  obtain ⟨o, a1, a2⟩ := a
  obtain ⟨o', b1, b2⟩ := b
  cases a1.symm.trans b1
  cases a2.symm.trans b2
  rfl
theorem SlotIs.uniq {m : Str → Option Value} {h : Heap} {i : Nat} {X Y : Value} (a : SlotIs Φ m h i X) (b : SlotIs Φ m h i Y) : X = Y := a.elim fun x a => a.elim fun k a => b.elim fun y b => b.elim fun k' b => by
 cases a.1.symm.trans b.1
 exact a.2.2.uniq b.2.2
open Classical in
noncomputable def slotX (Φ : Fx) (m : Str → Option Value) (h : Heap) (i : Nat) : Option Value := if e : ∃ X, SlotIs Φ m h i X then some (Classical.choose e) else none
theorem slotX_of {m : Str → Option Value} {h : Heap} {i : Nat} {X : Value} (a : SlotIs Φ m h i X) : slotX Φ m h i = some X := by
 have e : ∃ X, SlotIs Φ m h i X := ⟨X, a⟩
 unfold slotX
 rw [dif_pos e]
 exact congrArg some ((Classical.choose_spec e).uniq a)
theorem slotX_is {m : Str → Option Value} {h : Heap} {i : Nat} {X : Value} (a : slotX Φ m h i = some X) : SlotIs Φ m h i X := by
 unfold slotX at a
 split at a
 ·rename_i e
  cases a
  exact Classical.choose_spec e
 ·cases a
noncomputable def locX (Φ : Fx) (m : Str → Option Value) (h : Heap) (loc : Loc) : Loc := (List.range loc.length).map fun i => (slotX Φ m h i).map V.tok
theorem locX_at {m : Str → Option Value} {h : Heap} {i : Nat} {v : V} (e : (locX Φ m h loc)[i]? = some (some v)) : ∃ X, v = .tok X ∧ SlotIs Φ m h i X := by
 unfold locX at e
 rw [List.getElem?_map] at e
 refine omp e fun j e1 e2 => ?_
 have : j = i := by
  have := List.getElem?_eq_some_iff.mp e1
  obtain ⟨_, q⟩ := this
  simpa using q.symm
 subst this
 refine omp e2 fun X e3 q2 => ?_; subst q2
 exact ⟨X, rfl, slotX_is e3⟩
theorem SI.hide (S : SI W Φ ρ loc H s) : ∃ m, Fr Φ.g Φ.L s.heap m ∧ LocOk Φ (Φ.P ρ s.heap) ρ s.heap m loc ∧ SI W (Φ.hide ρ s.heap) [] (locX Φ m s.heap loc) [] s := by
 obtain ⟨m, F, l⟩ := S.m
 refine ⟨m, F, l, ⟨⟨m, F, fun i x k v hn hl => ?_⟩, S.cl, ⟨rfl, fun i c o h1 h2 => by simp at h1⟩, ?_, fun a ha => S.gn a ((hide_M _ _ _ a).mp ha), fun a ha => S.lt a ((hide_M _ _ _ a).mp ha), S.tb, S.gens, fun a ha => ?_⟩⟩
 ·obtain ⟨X, rfl, x', k', e1, e2, e3⟩ := locX_at hl
  cases (show Φ.names[i]? = some (x, k) from hn).symm.trans e1
  exact ⟨X, e3, .tok X e2⟩
 ·have h := S.nd
  unfold Fx.M Fx.T at h ⊢
  refine (List.Perm.nodup_iff ?_).mpr h
  refine List.Perm.cons _ (List.Perm.append_left _ ?_)
  show (mutA [] ++ (TB ++ (mutA ρ ++ Φ.base.X))).Perm (mutA ρ ++ (TB ++ Φ.base.X))
  have e : mutA ([] : List Cell) = [] := rfl
  rw [e, List.nil_append]
  exact List.perm_append_comm_assoc _ _ _
 ·rcases List.mem_append.mp ha with h | h
  ·obtain ⟨o, e⟩ := S.has (mem_M_mut h)
   exact ⟨o, o, e, e, rfl, .inl rfl⟩
  ·obtain ⟨o, o', e1, e2, e3⟩ := S.up a h
   exact ⟨o', o', e2, e2, rfl, .inl rfl⟩
theorem Fx.Ok.hide (O : Φ.Ok W) (S : SI W Φ ρ loc H s) : (Φ.hide ρ s.heap).Ok W where
 K := O.K
 T := O.T
 frames := O.frames
 stays := O.stays
 stack := fun h F u => O.stack h F (S.up.trans fun a ha => hide_up (u a (List.mem_append_right _ ha)))
 off := fun e he => by
  rcases O.off e he with h | h | ⟨b, hb, h⟩
  ·exact .inl h
  ·exact .inr (.inl h)
  ·exact .inr (.inr ⟨b, List.mem_append_right _ hb, h⟩)
 hh := O.hh
 loc := O.loc
 glob := O.glob
 bi := O.bi
 kind := O.kind
 nm := O.nm
 nd := O.nd
 depth := O.depth
 units := O.units
theorem FnOk.frame {n : Nat} {f : Value} {F} (h : FnOk W n f F) : FnOk W n f (frameG F) := fun Φ O hn loc H args v H' Vs ρ s R hf S hv k => ifo hf fun hc hf => omp2 hf fun u H1 e1 hf => by
 replace k := k.of hf
 refine S.hide.elim fun m z => ?_
 have z3 := z.2.2
 have low := frzG_low e1
 have pm : ∀ a o, Φ.P ρ s.heap a o → (Φ.hide ρ s.heap).P [] s.heap a o := fun a o z => ⟨z.1, fun q => z.2 ((hide_M _ _ _ a).mp q)⟩
 refine h.frz _ (O.hide S) hn _ _ _ _ _ _ _ _ _ e1 z3 (hv.all_of (fun v X r e => low_ok (n0 := 0) (P := (Φ.hide ρ s.heap).P [] s.heap) (ρ := []) (P' := (Φ.hide ρ s.heap).P [] s.heap) (ρ' := ρ) (fun _ _ z => z) (fun i c hi => absurd hi (Nat.not_lt_zero _)) 8 (r.mono pm fun _ _ z => z) e) hc) fun X s' ρ' t S' r => ?_
 have er : ρ' = [] := List.length_eq_zero_iff.mp (S'.hp.1.trans (congrArg _ low.1))
 subst er
 have keep : ∀ a o, s.heap.get? a = some o → a ∉ Φ.M ρ → s'.heap.get? a = some o := fun a o e n => (t.keep a o e fun q => n ((hide_M _ _ _ a).mp q)).1
 have pk : ∀ a o, Φ.P ρ s.heap a o → Φ.P ρ s'.heap a o := fun a o z => ⟨keep a o z.1 z.2, z.2⟩
 have pb : ∀ a o, (Φ.hide ρ s.heap).P [] s'.heap a o → Φ.P ρ s'.heap a o := fun a o z => ⟨z.1, fun q => z.2 ((hide_M _ _ _ a).mpr q)⟩
 refine k X s' ρ ⟨fun _ _ h => h, fun a o e n => ⟨keep a o e n, n⟩, t.os⟩ ⟨S'.mE fun m' F' l' => ⟨m', F', fun i x kk v hn' hl => (z.2.1 i x kk v hn' hl).imp fun X0 y => ⟨?_, y.2.mono pk fun _ _ q => q⟩⟩, S'.cl, ⟨S.hp.1, fun i c o h1 h2 => (S.hp.2 i c o h1 h2).mono (fun a ha o' ho' => (S'.up a (List.mem_append_left _ (mem_mutA h1 ha))).elim fun o1 w => w.elim fun o2 w => ?_) pk fun _ _ q => q⟩, S.nd, S.gn, fun a ha => S'.lt a ((hide_M _ _ _ a).mpr ha), S'.tb, S'.gens, S.up.trans fun a ha => hide_up (S'.up a (List.mem_append_right _ ha))⟩
  (low_ok (n0 := 0) (P := Φ.P ρ s'.heap) (ρ := ρ) pb (fun i c hi => absurd hi (Nat.not_lt_zero _)) 8 r low.2)
 ·have e : (locX Φ m s.heap loc)[i]? = some (some (.tok X0)) := by
   unfold locX
   rw [List.getElem?_map, List.getElem?_range (List.getElem?_eq_some_iff.mp hl).1]
   exact congrArg (fun q => some (Option.map V.tok q)) (slotX_of ⟨x, kk, hn', handed_vr y.2, y.1⟩)
  exact (l' i x kk (.tok X0) hn' e).elim fun X1 q => q.2.inv.1 ▸ q.1
 ·have e : o1 = o' := Option.some.inj (w.1.symm.trans ho')
  exact w.2.1.trans (congrArg some ((w.2.2.2.resolve_right fun q => by
   have w5 := (List.mem_filter.mp q).2
   simp [mem_mutA h1 ha] at w5).trans e))
end
end
end
section
section
noncomputable abbrev n217 : List (Str × Option Nat) := [("chunks", none), ("head", none), ("width", none), ("mark", none), ("maker", none), ("blank", none), ("part", none), ("rows", none)]
noncomputable def P217 : { B : SF // ∀ w p loose mean mg mb, FnOk (Wc w p loose mean mg mb) 5 (.ref 217) (bodyF n217 (bindP ["chunks", "head", "width", "mark"]) B) } := by
 refine ⟨?B, fun w p loose mean mg mb => fn_ok (fo := ?fo) (fd := ?fd) (body := ?body) ?ho ?hd ?hb ?hcl ?hgl ?hbi ?hcd ?hco ?hgen ?hk ?hbind ?hbody⟩
 case ho => exact rfl
 case hd => exact rfl
 case hb => exact rfl
 case hcl => rfl
 case hgl => rfl
 case hbi => rfl
 case hcd => rfl
 case hco => rfl
 case hgen => rfl
 case hk => decide
 case hbind => exact bndG (lnS fun _ => lnS fun _ => lnS fun _ => lnS fun _ => ln0 rfl) (by decide)
 case hbody =>
  intro A g L base fr O
  refine' sx_cons (sx_assign O 4 rfl ?mk (fun h => absurd rfl h) (by rfl)) (sx_cons ?fr (sx_cons (sx_assign O 7 rfl ?rw (fun h => absurd rfl h) (by rfl)) (sx_cons (sx_return (se_ite (sb_cmp ?st ?jn (op_eq O)) (se_name O 7 rfl rfl) (se_list sl_nil))) sx_nil)))
  case mk => exact se_call (n := 3) O (by show 3 < 5; omega) (sn_global O (by rfl) (by rfl) (by rfl)) (.ref (by rfl)) (sl_cons (se_name O 1 rfl rfl) (sl_cons (se_name O 2 rfl rfl) (sl_cons se_str (sl_cons (se_name O 3 rfl rfl) sl_nil)))) c94.call (.cons rfl rfl) rfl
  case fr =>
   refine' sx_for (tgt := fun _ => True) O trivial (sq_val (se_name O 0 rfl rfl)) (sa_tup2 O (sa_name O 5 rfl (fun h => absurd rfl h)) (sa_name O 6 rfl (fun h => absurd rfl h))) (sx_cons (sx_if (sb_cmp ?ap se_none op_isnt) (sx_cons (sx_return (se_list sl_nil)) sx_nil) sx_nil) sx_nil) sx_nil (fun _ => rfl)
   case ap =>
    refine' se_meth (n := 4) O (by show 4 < 5; omega) (se_name O 4 rfl rfl) (sg94 (f := 91) ?g1 ?g2) (.ref ?g3) (sl_cons (se_name O 5 rfl rfl) (sl_cons (se_name O 6 rfl rfl) sl_nil)) (.cons rfl rfl) k91.call ?g4
    case g1 => rfl
    case g2 => rfl
    case g3 => rfl
    case g4 => rfl
  case rw =>
   refine' se_meth (n := 0) O (by show 0 < 5; omega) (se_meth (n := 4) O (by show 4 < 5; omega) (se_name O 4 rfl rfl) (sg94 (f := 42) ?g1 ?g2) (.ref ?g3) (sl_cons se_str sl_nil) (.cons rfl rfl) k42.call ?g4) sg_split (.bi _) (sl_cons se_str sl_nil) (.cons rfl rfl) c_split ?g5
   case g1 => rfl
   case g2 => rfl
   case g3 => rfl
   case g4 => rfl
   case g5 => rfl
  case st =>
   refine' se_meth (n := 4) O (by show 4 < 5; omega) (se_name O 4 rfl rfl) (sg94 (f := 42) ?g1 ?g2) (.ref ?g3) (sl_cons se_str sl_nil) (.cons rfl rfl) k42.call ?g4
   case g1 => rfl
   case g2 => rfl
   case g3 => rfl
   case g4 => rfl
  case jn =>
   with_reducible refine' se_meth (n := 0) O ?q1 ?q2 ?q3 ?q4 ?q5 ?q6 ?q7 ?g4
   case q1 => show 0 < 5; omega
   case q2 => exact se_str
   case q3 => exact sg_join
   case q4 => exact (.bi _)
   case q5 => exact (sl_cons (se_name O 7 rfl rfl) sl_nil)
   case q6 => exact (.cons rfl rfl)
   case q7 => exact c_join
   case g4 => rfl
noncomputable def F217 : List V → List AO → Option (V × List AO) := bodyF n217 (bindP ["chunks", "head", "width", "mark"]) P217.1
section
variable {w : World} {p : Program} {loose : List Str} {mean : ExcName → Option Value} {mg mb : Str → Option Value}
theorem k217 : FnOk (Wc w p loose mean mg mb) 5 (.ref 217) F217 := P217.2 _ _ _ _ _ _
end
noncomputable abbrev n224 : List (Str × Option Nat) := [("rows", none), ("mark", none), ("told", none), ("count", none), ("row", none)]
noncomputable def P224 : { B : SF // ∀ w p loose mean mg mb, FnOk (Wc w p loose mean mg mb) 1 (.ref 224) (bodyF n224 (bindP ["rows", "mark"]) B) } := by
 refine ⟨?B, fun w p loose mean mg mb => fn_ok (fo := ?fo) (fd := ?fd) (body := ?body) ?ho ?hd ?hb ?hcl ?hgl ?hbi ?hcd ?hco ?hgen ?hk ?hbind ?hbody⟩
 case ho => exact rfl
 case hd => exact rfl
 case hb => exact rfl
 case hcl => rfl
 case hgl => rfl
 case hbi => rfl
 case hcd => rfl
 case hco => rfl
 case hgen => rfl
 case hk => decide
 case hbind => exact bnd2 (fun X Y => rfl) (by decide) (by decide)
 case hbody =>
  intro A g L base fr O
  refine' sx_cons (sx_assign O 2 rfl (se_list_ref sl_nil) (fun h => absurd rfl h) (by rfl)) (sx_cons (sx_assign O 3 rfl se_int (fun h => absurd rfl h) (by rfl)) (sx_cons (sx_for (tgt := fun _ => True) O trivial (sq_val (se_name O 0 rfl rfl)) (sa_name O 4 rfl (fun h => absurd rfl h)) (sx_cons (sx_aug O 3 rfl (se_bin (se_call (n := 0) O (by show 0 < 1; omega) (sn_builtin O (by rfl) boot_len (by decide) (by rfl) (by rfl)) (.bi _) (sl_cons (se_name O 4 rfl rfl) sl_nil) c_len (.cons rfl rfl) rfl) se_int op_fdiv) op_iadd (fun h => absurd rfl h)) (sx_cons (sx_if (sb_cmp (se_sub (se_name O 4 rfl rfl) (se_neg se_int) (op_idx (fun _ _ => by with_unfolding_all rfl))) (se_name O 1 rfl rfl) (op_eq O)) (sx_cons (sx_expr ?ap (by rfl) (by rfl)) sx_nil) sx_nil) sx_nil)) sx_nil (fun _ => rfl)) (sx_cons (sx_return (se_name O 2 rfl rfl)) sx_nil)))
  case ap =>
   refine' se_meth (n := 0) O (by show 0 < 1; omega) (se_name O 2 rfl rfl) (sg_list PySem.F.slot_list_append PySem.F.type_list_append) (.bi _) (sl_cons (se_bin (se_name O 3 rfl rfl) se_int op_sub) sl_nil) (.cons rfl rfl) c_append ?g4
   case g4 => rfl
noncomputable def F224 : List V → List AO → Option (V × List AO) := bodyF n224 (bindP ["rows", "mark"]) P224.1
section
variable {w : World} {p : Program} {loose : List Str} {mean : ExcName → Option Value} {mg mb : Str → Option Value}
theorem k224 : FnOk (Wc w p loose mean mg mb) 1 (.ref 224) F224 := P224.2 _ _ _ _ _ _
end
noncomputable abbrev n229 : List (Str × Option Nat) := [("rows", none), ("head", none), ("step", none), ("columns", none), ("k", none), ("j", none)]
noncomputable def P229 : { B : SF // ∀ w p loose mean mg mb, FnOk (Wc w p loose mean mg mb) 1 (.ref 229) (bodyF n229 (bindP ["rows", "head", "step"]) B) } := by
 refine ⟨?B, fun w p loose mean mg mb => fn_ok (fo := ?fo) (fd := ?fd) (body := ?body) ?ho ?hd ?hb ?hcl ?hgl ?hbi ?hcd ?hco ?hgen ?hk ?hbind ?hbody⟩
 case ho => exact rfl
 case hd => exact rfl
 case hb => exact rfl
 case hcl => rfl
 case hgl => rfl
 case hbi => rfl
 case hcd => rfl
 case hco => rfl
 case hgen => rfl
 case hk => decide
 case hbind => exact bnd3 (fun X Y Z => rfl) (by decide) (by decide) (by decide)
 case hbody =>
  intro A g L base fr O
  refine' sx_cons (sx_assign_comp (tgt := fun _ => True) O 3 false rfl ?c (by rfl)) (sx_cons ?lp (sx_cons (sx_return (se_name O 3 rfl rfl)) sx_nil))
  case c => exact ct1 (ys := ["_"]) (cs := []) (cb_of (by rfl) (by rfl) (by rfl) (by rfl) (by rfl) (fun i h => by cases h) (by rfl)) trivial (sq_range O (sn_builtin O (by rfl) boot_range (by decide) (by rfl) (by rfl)) (sl_cons (se_name O 2 rfl rfl) sl_nil) (.cons rfl rfl) rfl) (fun _ => rfl) (fun g' C OΨ => sa_name OΨ 0 rfl (fun h => absurd rfl h)) (fun _ _ _ => sc_nil) (fun g' C OΨ => se_list_ref sl_nil) (keeps_name (by decide))
  case lp =>
   refine' sx_for (tgt := fun _ => True) O trivial (sq_range O (sn_builtin O (by rfl) boot_range (by decide) (by rfl) (by rfl)) (sl_cons (se_call (n := 0) O (by show 0 < 1; omega) (sn_builtin O (by rfl) boot_len (by decide) (by rfl) (by rfl)) (.bi _) (sl_cons (se_name O 0 rfl rfl) sl_nil) c_len (.cons rfl rfl) rfl) sl_nil) (.cons rfl rfl) rfl) (sa_name O 4 rfl (fun h => absurd rfl h)) (sx_cons (sx_for (tgt := fun _ => True) O trivial (sq_range O (sn_builtin O (by rfl) boot_range (by decide) (by rfl) (by rfl)) (sl_cons (se_bin (se_call (n := 0) O (by show 0 < 1; omega) (sn_builtin O (by rfl) boot_len (by decide) (by rfl) (by rfl)) (.bi _) (sl_cons (se_sub (se_name O 0 rfl rfl) (se_name O 4 rfl rfl) (op_idx (fun _ _ => by with_unfolding_all rfl))) sl_nil) c_len (.cons rfl rfl) rfl) se_int op_fdiv) sl_nil) (.cons rfl rfl) rfl) (sa_name O 5 rfl (fun h => absurd rfl h)) (sx_cons (sx_expr ?ap (by rfl) (by rfl)) sx_nil) sx_nil (fun _ => rfl)) sx_nil) sx_nil (fun _ => rfl)
   case ap =>
    refine' se_meth (n := 0) O (by show 0 < 1; omega) (se_sub (se_name O 3 rfl rfl) (se_bin (se_ite (sb_cmp (se_name O 4 rfl rfl) se_int (op_eq O)) (se_name O 1 rfl rfl) se_int) (se_name O 5 rfl rfl) op_add) (op_idx (fun _ _ => by with_unfolding_all rfl))) (sg_list PySem.F.slot_list_append PySem.F.type_list_append) (.bi _) (sl_cons (se_sub (se_sub (se_name O 0 rfl rfl) (se_name O 4 rfl rfl) (op_idx (fun _ _ => by with_unfolding_all rfl))) (se_bin (se_bin se_int (se_name O 5 rfl rfl) op_mul) se_int op_add) (op_idx (fun _ _ => by with_unfolding_all rfl))) sl_nil) (.cons rfl rfl) c_append ?g4
    case g4 => rfl
noncomputable def F229 : List V → List AO → Option (V × List AO) := bodyF n229 (bindP ["rows", "head", "step"]) P229.1
section
variable {w : World} {p : Program} {loose : List Str} {mean : ExcName → Option Value} {mg mb : Str → Option Value}
theorem k229 : FnOk (Wc w p loose mean mg mb) 1 (.ref 229) F229 := P229.2 _ _ _ _ _ _
end
noncomputable abbrev n234 : List (Str × Option Nat) := [("signs", some 0), ("k", none), ("rows", none), ("told", none), ("j", some 1)]
noncomputable def P234 : { B : SF // ∀ w p loose mean mg mb, FnOk (Wc w p loose mean mg mb) 1 (.ref 234) (bodyF n234 (bindP ["signs"]) B) } := by
 refine ⟨?B, fun w p loose mean mg mb => fn_ok (fo := ?fo) (fd := ?fd) (body := ?body) ?ho ?hd ?hb ?hcl ?hgl ?hbi ?hcd ?hco ?hgen ?hk ?hbind ?hbody⟩
 case ho => exact rfl
 case hd => exact rfl
 case hb => exact rfl
 case hcl => rfl
 case hgl => rfl
 case hbi => rfl
 case hcd => rfl
 case hco => rfl
 case hgen => rfl
 case hk => decide
 case hbind => exact bnd1 (fun X => rfl) (by decide)
 case hbody =>
  intro A g L base fr O
  refine' sx_cons (sx_assign_comp (tgt := fun _ => True) O 2 true rfl ?c (by rfl)) (sx_cons (sx_assign O 3 rfl (se_list_ref sl_nil) (fun h => absurd rfl h) (by rfl)) (sx_cons ?lp (sx_cons (sx_return (se_name O 3 rfl rfl)) sx_nil)))
  case c =>
   exact ct1 (ys := ["k"]) (cs := [0]) (cb_of (by rfl) (by rfl) (by rfl) (by rfl) (by rfl) (fun i h => by simp at h; subst h; exact ⟨_, _, rfl, by rfl, by rfl⟩) (by rfl)) trivial (sq_range O (sn_builtin O (by rfl) boot_range (by decide) (by rfl) (by rfl)) (sl_cons (se_call (n := 0) O (by show 0 < 1; omega) (sn_builtin O (by rfl) boot_len (by decide) (by rfl) (by rfl)) (.bi _) (sl_cons (se_name O 0 rfl rfl) sl_nil) c_len (.cons rfl rfl) rfl) sl_nil) (.cons rfl rfl) rfl) (fun _ => rfl) (fun g' C OΨ => sa_name OΨ 0 rfl (fun h => absurd rfl h)) (fun g' C OΨ => sc_one (sb_cmp (se_sub (se_name OΨ 1 rfl rfl) (se_name OΨ 0 rfl rfl) (op_idx (fun _ _ => by with_unfolding_all rfl))) se_str (op_eq OΨ)))
    (fun g' C OΨ => se_meth (n := 0) (pl := pure false) OΨ (by show 0 < 1; omega) (se_slice (se_name OΨ 1 rfl rfl) sp_none (sp_some (se_name OΨ 0 rfl rfl)) sp_none (fun _ _ => ⟨_, rfl⟩)) (sg_list PySem.F.slot_list_count PySem.F.type_list_count) (.bi _) (sl_cons se_str sl_nil) (.cons rfl rfl) c_count (by rfl)) (keeps_name (by decide))
  case lp =>
   refine' sx_for (tgt := fun _ => True) O trivial (sq_range O (sn_builtin O (by rfl) boot_range (by decide) (by rfl) (by rfl)) (sl_cons (se_call (n := 0) O (by show 0 < 1; omega) (sn_builtin O (by rfl) boot_len (by decide) (by rfl) (by rfl)) (.bi _) (sl_cons (se_name O 2 rfl rfl) sl_nil) c_len (.cons rfl rfl) rfl) sl_nil) (.cons rfl rfl) rfl) (sa_name O 1 rfl (fun h => absurd rfl h)) (sx_cons (sx_for (tgt := fun _ => True) O trivial (sq_range O (sn_builtin O (by rfl) boot_range (by decide) (by rfl) (by rfl)) (sl_cons (se_bin (se_sub (se_name O 2 rfl rfl) (se_name O 1 rfl rfl) (op_idx (fun _ _ => by with_unfolding_all rfl))) se_int op_sub) (sl_cons (se_neg se_int) (sl_cons (se_neg se_int) sl_nil))) (.cons rfl rfl) rfl) (sa_name O 4 rfl (fun _ => by rfl)) (sx_cons (sx_expr ?ap (by rfl) (by rfl)) sx_nil) sx_nil (fun _ => rfl)) sx_nil) sx_nil (fun _ => rfl)
   case ap =>
    refine' se_meth (n := 0) O (by show 0 < 1; omega) (se_name O 3 rfl rfl) (sg_list PySem.F.slot_list_append PySem.F.type_list_append) (.bi _) (sl_cons (se_bin (se_bin (se_sub (se_name O 2 rfl rfl) (se_name O 1 rfl rfl) (op_idx (fun _ _ => by with_unfolding_all rfl))) (se_name O 4 rfl rfl) op_sub) (se_call (n := 0) O (by show 0 < 1; omega) (sn_builtin O (by rfl) boot_len (by decide) (by rfl) (by rfl)) (.bi _) (sl_cons (se_comp (tgt := fun _ => True) O true ?c2) sl_nil) c_len (.cons rfl rfl) rfl) op_add) sl_nil) (.cons rfl rfl) c_append ?g4
    case g4 => rfl
    case c2 =>
     exact ct1 (ys := ["row"]) (cs := [4]) (cb_of (by rfl) (by rfl) (by rfl) (by rfl) (by rfl) (fun i h => by simp at h; subst h; exact ⟨_, _, rfl, by rfl, by rfl⟩) (by rfl)) trivial (sq_val (se_slice (se_name O 2 rfl rfl) sp_none (sp_some (se_name O 1 rfl rfl)) sp_none (fun _ _ => ⟨_, rfl⟩))) (fun _ => rfl) (fun g' C OΨ => sa_name OΨ 0 rfl (fun h => absurd rfl h)) (fun g' C OΨ => sc_one (sb_cmp (se_name OΨ 0 rfl rfl) (se_name OΨ 1 rfl rfl) op_gt)) (fun g' C OΨ => (se_name OΨ 0 rfl rfl)) (keeps_name (by decide))
noncomputable def F234 : List V → List AO → Option (V × List AO) := bodyF n234 (bindP ["signs"]) P234.1
section
variable {w : World} {p : Program} {loose : List Str} {mean : ExcName → Option Value} {mg mb : Str → Option Value}
theorem k234 : FnOk (Wc w p loose mean mg mb) 1 (.ref 234) F234 := P234.2 _ _ _ _ _ _
end
end
end
section
section
section
variable {prog : Program} {w : World} {A : Around} {E : Value → Shared → Prop} {s : Shared}
theorem sliceApplied_rev2 {sl : Addr} {u : Tok} {Q : Int × Int × Nat → Shared → Prop} (hs : s.heap.IsSliceOf sl .none .none (.int (-1) u)) (h : Q ((1 : Int), -1, 2) s) :
  wpAny (model prog w) A (Builtin.Slice.sliceApplied (.ref sl) (pure (2 : Int))) Q E s := by
 obtain ⟨os, hos, hcs, hds⟩ := id hs
 unfold Builtin.Slice.sliceApplied Builtin.Slice.sliceFields
 refine wpAny_bind (wpAny_bind (wpAny_field hos hds (x := .none) rfl (wpAny_bind (wpAny_field hos hds (x := .none) rfl (wpAny_bind (wpAny_field hos hds (x := .int (-1) u) rfl (wpAny_pure ?_)))))))
 refine wpAny_bind (slicePart_int ?_)
 show wpAny _ _ (if ((-1 : Int) == 0) = true then _ else _) _ _ s
 rw [if_neg (by decide)]
 refine wpAny_bind (slicePart_none (wpAny_bind (slicePart_none (wpAny_bind (wpAny_pure ?_)))))
 show wpAny _ _ (match Builtin.Slice.sliceAdjust none none (-1) 2 with | (lo, hi) => pure (lo, (-1 : Int), Builtin.Slice.slicePlaces lo hi (-1))) _ _ s
 exact wpAny_pure h
theorem getItem_tuple_rev2 {t sl : Addr} {x y : Value} {u : Tok} {Q : Value → Shared → Prop} (ht : IsTup s.heap t #[x, y]) (hs : s.heap.IsSliceOf sl .none .none (.int (-1) u))
  (h : Q (.ref s.heap.objs.size) { s with heap := s.heap.push { cls := .type "tuple", data := .seq #[y, x] } }) : wpAny (model prog w) A (getItem (.ref t) (.ref sl)) Q E s := by
 have hdrop : sizeOk (.seq #[y, x]) := by
  show (#[y, x] : Array Value).size ≤ sizeLine
  rw [sizeLine_eq]; simp
 obtain ⟨os, hos, hcs, hds⟩ := id hs
 have hTs : s.TypeIs (.ref sl) "slice" := ⟨os, hos, hcs⟩
 unfold getItem
 try with_reducible refine wpAny_holding ?_
 first | refine wpAny_bind (wpAny_pure ?_) | skip
 refine wpAny_bind (wpAny_sequenceKey ht.typeIs (by decide) ?_)
 refine wpAny_bind (wpAny_callSpecial?_slot (name := Str.ofString "__getitem__") ht.typeIs PySem.F.slot_tuple_getitem
  (wpAny_call_entry PySem.F.slot_tuple_getitem ht.typeIs PySem.F.entry_tuple_getitem ?_ (args_tuple_getitem _ _)))
 show wpAny _ _ (Builtin.Tuple.tupleItemsOf (.ref t) >>= _) _ _ s
 refine wpAny_bind (tupleItemsOf_ ht ?_)
 refine wpAny_bind (wpAny_typeOf hTs ?_)
 rw [if_pos (by decide)]
 refine wpAny_bind (sliceApplied_rev2 hs ?_)
 show wpAny _ _ (if ((1 : Int) == 0 && (-1 : Int) == 1 && 2 == (#[x, y] : Array Value).size) = true then _ else _) _ _ s
 rw [if_neg (by show ¬ ((1 : Int) == 0 && (-1 : Int) == 1 && 2 == 2) = true; decide)]
 have e : ((List.range 2).filterMap fun (k : Nat) => (#[x, y] : Array Value)[((1 : Int) + (k : Int) * (-1)).toNat]?).toArray = #[y, x] := rfl
 rw [e]
 first
  | exact wpAny_bind (m := Builtin.Tuple.tupleExact _) (wpAny_newObj_type (wpAny_pure ⟨_, rfl, wpAny_pure h⟩) hdrop)
  | exact wpAny_bind (m := Builtin.Tuple.tupleExact _) (wpAny_newObj_type (wpAny_bind (wpAny_pure (wpAny_pure ⟨_, rfl, wpAny_pure h⟩))) hdrop)
  | exact wpAny_bind (wpAny_bind (m := Builtin.Tuple.tupleExact _) (wpAny_newObj_type (wpAny_pure (wpAny_pure ⟨_, rfl, wpAny_pure h⟩)) hdrop))
  | exact wpAny_bind (wpAny_bind (m := Builtin.Tuple.tupleExact _) (wpAny_newObj_type (wpAny_pure ⟨_, rfl, wpAny_pure h⟩) hdrop))
end
section
variable {W : Wd} {Φ : Fx} {ρ : List Cell} {loc : Loc} {H : List AO} {s : Shared} {P : Addr → Obj → Prop}
noncomputable def revT2 (v : V) (st : Option Int) : Option V := v.pr?.bind fun p => if st = some (-1) then some (.tup [p.2, p.1]) else none
noncomputable def revTF (f : EF) (r : PF) : EF := fun loc H => (f loc H).bind fun a => (r loc a.2).bind fun st => (revT2 a.1 st.1).map (·, st.2)
theorem revT_go {M : Program} {w : World} {A : Around} {value slice : Expr} {Pp : Addr → Obj → Prop} {x y : V} {a : Addr} {zs : List Value} {u : Tok} {ops : List Value} {Q : Value → Shared → Prop} {E : Value → Shared → Prop}
  (ho : (s.heap.push { cls := .type "slice", data := .fields #[.none, .none, .int (-1) u] }).get? a = some (tupO zs)) (hv : VRs Pp ρ [x, y] zs)
  (hs : subscripted slice false (.ref a) (.ref s.heap.objs.size) = operate ops (getItem (.ref a) (.ref s.heap.objs.size)))
  (k : ∀ X Y, VR Pp ρ x X → VR Pp ρ y Y → Q (.ref (s.heap.push { cls := .type "slice", data := .fields #[.none, .none, .int (-1) u] }).objs.size) { s with heap := (s.heap.push { cls := .type "slice", data := .fields #[.none, .none, .int (-1) u] }).push (tupO [Y, X]) }) :
  wpAny (model M w) A (subscriptTail value slice (.ref a) (.ref s.heap.objs.size)) Q E { s with heap := s.heap.push { cls := .type "slice", data := .fields #[.none, .none, .int (-1) u] } } := by
 obtain _ | ⟨r1, hv⟩ := hv; obtain _ | ⟨r2, hv⟩ := hv; cases hv
 exact tail_any (s := { s with heap := s.heap.push { cls := .type "slice", data := .fields #[.none, .none, .int (-1) u] } }) ⟨_, ho, rfl⟩ PySem.F.slot_tuple_getitem.lookup (getItem_tuple_rev2 ⟨_, ho, rfl, _, rfl⟩ (Heap.IsSliceOf.new _ _ _ _) (k _ _ r1 r2)) hs
theorem se_revT {value : Expr} {step : Expr} {p0 pos : Pos} {f : EF} {r : PF} (hv : SE W Φ value f) (hr : SP W Φ (some step) r)
  (hs : ∀ o i, ∃ ops, subscripted (.Slice none none (some step) p0) false o i = operate ops (getItem o i)) : SE W Φ (.Subscript value (.Slice none none (some step) p0) pos) (revTF f r) := fun loc H v H' ρ s Q E hf S k => by
 refine obp2 hf fun a H1 e1 hf => obp2 hf fun st H4 e4 hf => omp hf fun z e5 q => obp e5 fun p e6 e7 => ifs e7 fun hst hz => ?_
 replace k := k.of q
 subst hst hz
 refine Subscript_ (hv _ _ _ _ _ _ _ _ e1 S fun X s1 ρ1 t1 S1 v1 => wpAny_Slice (wpAny_evalPart_none (wpAny_evalPart_none (hr _ _ _ _ _ _ _ _ e4 S1 fun T s4 ρ4 t4 S4 st4 => ?_))))
 have vX := t4.mono v1
 have k1 := Kp.pushO s4 { cls := .type "slice", data := .fields #[.none, .none, T] }
 have S5 := S4.kept k1
 have vX := k1.stp.mono vX
 cases st4
 rename_i u
 obtain ⟨a, X2, Y2, rfl, hp, r1, r2⟩ := vX.isPr e6
 exact revT_go hp.1 (.cons r1 (.cons r2 .nil)) (hs _ _).choose_spec fun X2 Y2 e1 e2 => by
  have k2 := Kp.pushO { s4 with heap := s4.heap.push { cls := .type "slice", data := .fields #[.none, .none, .int (-1) u] } } (tupO [Y2, X2])
  exact k _ _ ρ4 (((t1.trans t4).trans k1.stp).trans k2.stp) (S5.kept k2) (.tup (S5.got rfl) (.cons (k2.stp.mono e2) (.cons (k2.stp.mono e1) .nil)))
noncomputable def rng2F (args : List V) (H : List AO) : Option (V × List AO) := (two? args).bind fun p => p.1.int?.bind fun a => p.2.int?.bind fun b => if small a ∧ small b ∧ a ≤ b then some (.rng a (b - a).toNat, H) else none
theorem rng2F_run {a b : Int} : rng2F [.int a, .int b] H = if small a ∧ small b ∧ a ≤ b then some (.rng a (b - a).toNat, H) else none := rfl
theorem c_range2 {n : Nat} : CallOk W n (.type "range") rng2F := fun Φ O hn loc H args v H' Vs ρ s Q E hf S hv k => obp hf fun p e0 hf => obp hf fun a e1 hf => obp hf fun b e2 hf => ifs hf fun hz q => by
 replace k := k.of q
 obtain ⟨X, Y, rfl, r1, r2⟩ := hv.two e0
 obtain ⟨t, rfl⟩ := r1.isInt e1
 obtain ⟨u, rfl⟩ := r2.isInt e2
 refine call_range_2 ?_
 have e : b = a + ((b - a).toNat : Int) := by rw [Int.toNat_of_nonneg (Int.sub_nonneg.mpr hz.2.2)]; exact ((Int.add_comm a (b - a)).trans (Int.sub_add_cancel b a)).symm
 have k1 : Kp s { s with heap := s.heap.push { cls := .type "range", data := .fields #[.int a t, .int b u, .int 1 s.toks] }, toks := s.toks + 1 } := Kp.push
 refine k _ _ ρ k1.stp (S.kept k1) ?_
 refine .rng (t := t) (u := u) (v := s.toks) (r := s.heap.objs.size) ?_
 rw [← e]
 exact S.got rfl
noncomputable def addR (H : List AO) (a b : V) : Option (V × List AO) := a.lst?.bind fun xs => b.lst?.bind fun ys => if xs.length + ys.length ≤ 1000 then some (.ref H.length, H ++ [.list (xs ++ ys)]) else none
theorem op_addR : S2 W Φ (binaryOp .Add) addR := fun loc H a b v H' X Y ρ s Q E hf S ha hb k => obp hf fun xs e1 hf => obp hf fun ys e2 hf => ifs hf fun hz q => by
 cases q
 obtain ⟨a1, vs1, n1, rfl, pa, va⟩ := ha.isLst e1
 obtain ⟨a2, vs2, n2, rfl, pb, vb⟩ := hb.isLst e2
 rw [va.length, vb.length] at hz
 have k1 := Kp.pushO s (lstO (vs1 ++ vs2) 0)
 obtain ⟨S2, t2⟩ := S.add k1 (c := (s.heap.objs.size, none)) (o := .list (xs ++ ys)) (fun a ha => by
  rw [List.mem_singleton.mp ha]
  exact ⟨Nat.le_refl _, by rw [Heap.size_push]; exact Nat.lt_succ_self _⟩) (List.nodup_cons.mpr ⟨List.not_mem_nil, List.nodup_nil⟩)
  (fun P hP => ⟨rfl, _, 0, Heap.get?_push_size _ rfl, (va.append vb).mono hP fun i c e => by rw [List.getElem?_append_left (List.getElem?_eq_some_iff.mp e).1]; exact e⟩)
 exact raw_add_lists pa.1 pb.1 (k _ _ _ t2 S2 (.ref (c := (s.heap.objs.size, none)) (by rw [← S.hp.1]; exact List.getElem?_concat_length))) (by rw [sizeLine_eq]; exact Nat.le_trans hz (by decide))
end
end
end
section
section
noncomputable def P189 : { B : SF // ∀ w p loose mean mg mb, FnOkC (Wc w p loose mean mg mb) 1 (.ref 189) (bodyF n189 (bindP ["expected", "actual"]) B) } := by
 refine ⟨?B, fun w p loose mean mg mb => fn_okC (fo := ?fo) (fd := ?fd) (body := ?body) ?ho ?hd ?hb ?hcl ?hgl ?hbi ?hcd ?hco ?hgen ?hk ?hbind ?hbody⟩
 case ho => exact rfl
 case hd => exact rfl
 case hb => exact rfl
 case hcl => rfl
 case hgl => rfl
 case hbi => rfl
 case hcd => rfl
 case hco => rfl
 case hgen => rfl
 case hk => decide
 case hbind => exact bnd2 (fun X Y => rfl) (by decide) (by decide)
 case hbody =>
  intro A g L base fr O Fo
  refine' sx_cons (sx_assign2 O 2 3 rfl rfl se_int (fun h => absurd rfl h) (fun h => absurd rfl h)) (sx_cons (sx_assign O 4 rfl (se_list_ref sl_nil) (fun h => absurd rfl h) (by rfl)) (sx_cons (sx_assign O 5 rfl (se_list_ref sl_nil) (fun h => absurd rfl h) (by rfl)) (sx_cons (sx_while (sb_val se_bool) (sx_cons ?tryS sx_nil) 100) (sx_cons (sx_return (se_tuple (sl_cons (se_name O 4 rfl rfl) (sl_cons (se_name O 5 rfl rfl) sl_nil)))) sx_nil))))
  case tryS =>
   refine' sx_try_except (X := "IndexError") (Ts := "IndexError") O Fo (by decide) ?t1 ?t2 ?t3 (by rfl) bootIndexError (by decide) (by rfl) (by rfl) ?bdy ?hand
   case bdy =>
    refine' rx_cons (rx_assign O 6 rfl (re_idx O rfl (b := true) (fun _ => O.hh) 0 2 rfl rfl rfl rfl) (fun h => absurd rfl h) (by rfl)) (rx_cons (rx_assign O 7 rfl (re_idx O rfl (b := true) (fun _ => O.hh) 1 3 rfl rfl rfl rfl) (fun h => absurd rfl h) (by rfl)) (rx_cons ?ifs rx_nil))
    case ifs =>
     refine' rx_if (sb_cmp (se_name O 6 rfl rfl) (se_name O 7 rfl rfl) op_lt) ?lt (rx_cons (rx_if (sb_cmp (se_name O 6 rfl rfl) (se_name O 7 rfl rfl) op_gt) ?gt ?eq) rx_nil)
     case lt =>
      refine' rx_cons (rx_of (sx_expr ?m1 (by rfl) (by rfl))) (rx_cons (rx_of (sx_aug O 2 rfl se_int op_iadd (fun h => absurd rfl h))) (rx_cons (rx_while O Fo (by decide) rfl (rb_cmp (re_idx O rfl (b := true) (fun _ => O.hh) 0 2 rfl rfl rfl rfl) (se_name O 6 rfl rfl) op_eqI) (sx_cons (sx_aug O 2 rfl se_int op_iadd (fun h => absurd rfl h)) sx_nil) 100) rx_nil))
      case m1 =>
       refine' se_meth (n := 0) O (Nat.lt_succ_self 0) (se_name O 4 rfl rfl) (sg_list PySem.F.slot_list_append PySem.F.type_list_append) (.bi _) (sl_cons (se_name O 6 rfl rfl) sl_nil) (.cons rfl rfl) c_append ?g4
       case g4 => rfl
     case gt =>
      refine' rx_cons (rx_of (sx_expr ?m1 (by rfl) (by rfl))) (rx_cons (rx_of (sx_aug O 3 rfl se_int op_iadd (fun h => absurd rfl h))) (rx_cons (rx_while O Fo (by decide) rfl (rb_cmp (re_idx O rfl (b := true) (fun _ => O.hh) 1 3 rfl rfl rfl rfl) (se_name O 7 rfl rfl) op_eqI) (sx_cons (sx_aug O 3 rfl se_int op_iadd (fun h => absurd rfl h)) sx_nil) 100) rx_nil))
      case m1 =>
       refine' se_meth (n := 0) O (Nat.lt_succ_self 0) (se_name O 5 rfl rfl) (sg_list PySem.F.slot_list_append PySem.F.type_list_append) (.bi _) (sl_cons (se_name O 7 rfl rfl) sl_nil) (.cons rfl rfl) c_append ?g4
       case g4 => rfl
     case eq =>
      refine' rx_cons (rx_of (sx_aug O 2 rfl se_int op_iadd (fun h => absurd rfl h))) (rx_cons (rx_try_finally O Fo (by decide) rfl ?b1 ?b2 (fun e => ?b3)) rx_nil)
      case b1 => exact rx_cons (rx_while O Fo (by decide) rfl (rb_cmp (re_idx O rfl (b := true) (fun _ => O.hh) 0 2 rfl rfl rfl rfl) (se_name O 6 rfl rfl) op_eqI) (sx_cons (sx_aug O 2 rfl se_int op_iadd (fun h => absurd rfl h)) sx_nil) 100) rx_nil
      case b2 => exact rx_cons (rx_of (sx_aug O 3 rfl se_int op_iadd (fun h => absurd rfl h))) (rx_cons (rx_while O Fo (by decide) rfl (rb_cmp (re_idx O rfl (b := true) (fun _ => O.hh) 1 3 rfl rfl rfl rfl) (se_name O 7 rfl rfl) op_eqI) (sx_cons (sx_aug O 3 rfl se_int op_iadd (fun h => absurd rfl h)) sx_nil) 100) rx_nil)
      case b3 => exact sx_cons (sx_augA O (A.mark (some (.ref e))) 3 rfl se_int op_iadd (fun h => absurd rfl h)) (sx_cons (sx_while (sb_cmp (se_sub (se_nameA O (A.mark (some (.ref e))) 1 rfl rfl) (se_nameA O (A.mark (some (.ref e))) 3 rfl rfl) (op_idx (fun _ _ => by with_unfolding_all rfl))) (se_nameA O (A.mark (some (.ref e))) 7 rfl rfl) op_eqI) (sx_cons (sx_augA O (A.mark (some (.ref e))) 3 rfl se_int op_iadd (fun h => absurd rfl h)) sx_nil) 100) sx_nil)
   case t1 => rw [isSubtype_type]; kernel_rfl
   case t2 => rw [isSubtype_type]; kernel_rfl
   case t3 => rw [isSubtype_type]; kernel_rfl
   case hand =>
    intro e
    refine' sx_cons (sx_expr ?h1 (by rfl) (by rfl)) (sx_cons (sx_expr ?h2 (by rfl) (by rfl)) (sx_cons sx_break sx_nil))
    case h1 =>
     refine' se_extend O _ 4 rfl rfl (se_slice (se_nameA O _ 0 rfl rfl) (sp_some (se_nameA O _ 2 rfl rfl)) sp_none sp_none (fun _ _ => ⟨_, rfl⟩)) ?g1 ?g2
     case g1 => rfl
     case g2 => rfl
    case h2 =>
     refine' se_extend O _ 5 rfl rfl (se_slice (se_nameA O _ 1 rfl rfl) (sp_some (se_nameA O _ 3 rfl rfl)) sp_none sp_none (fun _ _ => ⟨_, rfl⟩)) ?g1 ?g2
     case g1 => rfl
     case g2 => rfl
noncomputable def F189 : List V → List AO → Option (V × List AO) := bodyF n189 (bindP ["expected", "actual"]) P189.1
section
variable {w : World} {p : Program} {loose : List Str} {mean : ExcName → Option Value} {mg mb : Str → Option Value}
theorem k189 : FnOkC (Wc w p loose mean mg mb) 1 (.ref 189) F189 := P189.2 _ _ _ _ _ _
end
noncomputable abbrev n244 : List (Str × Option Nat) := [("lows", none), ("highs", none), ("told", none), ("k", none), ("q", some 0), ("numbers", none), ("ways", none), ("answer", none), ("beyond", none)]
noncomputable def P244 : { B : SF // ∀ w p loose mean mg mb, FnOkC (Wc w p loose mean mg mb) 2 (.ref 244) (bodyF n244 (bindP ["lows", "highs"]) B) } := by
 refine ⟨?B, fun w p loose mean mg mb => fn_okC (fo := ?fo) (fd := ?fd) (body := ?body) ?ho ?hd ?hb ?hcl ?hgl ?hbi ?hcd ?hco ?hgen ?hk ?hbind ?hbody⟩
 case ho => exact rfl
 case hd => exact rfl
 case hb => exact rfl
 case hcl => rfl
 case hgl => rfl
 case hbi => rfl
 case hcd => rfl
 case hco => rfl
 case hgen => rfl
 case hk => decide
 case hbind => exact bnd2 (fun X Y => rfl) (by decide) (by decide)
 case hbody =>
  intro A g L base fr O Fo
  refine' sx_cons (sx_assign O 2 rfl (se_list_ref sl_nil) (fun h => absurd rfl h) (by rfl)) (sx_cons ?lp (sx_cons (sx_return (se_name O 2 rfl rfl)) sx_nil))
  case lp =>
   refine' sx_for (tgt := tgtT) O ⟨_, _, _, rfl⟩ (sq_enum O (sn_builtin O (by rfl) boot_enum (by decide) (by rfl) (by rfl)) (sl_cons (se_name O 1 rfl rfl) sl_nil) (.cons rfl rfl) rfl) (sa_tup2 O (sa_name O 3 rfl (fun h => absurd rfl h)) (sa_name O 4 rfl (fun _ => by rfl))) (sx_cons (sx_assign O 5 rfl ?nu (fun h => absurd rfl h) (by rfl)) (sx_cons (sx_assign O 6 rfl ?wy (fun h => absurd rfl h) (by rfl)) (sx_cons (sx_if (sb_cmp (se_bin (se_name O 3 rfl rfl) se_int op_fmod) se_int (op_eq O)) (sx_cons (sx_assign O 7 rfl ?a1 (fun h => absurd rfl h) (by rfl)) sx_nil) (sx_cons (sx_assign O 7 rfl ?a2 (fun h => absurd rfl h) (by rfl)) sx_nil)) (sx_cons (sx_assign O 8 rfl ?be (fun h => absurd rfl h) (by rfl)) (sx_cons (sx_if (sb_cmp (se_name O 7 rfl rfl) ?du (op_ne O)) (sx_cons (sx_return se_none) sx_nil) sx_nil) (sx_cons (sx_expr ?ex (by rfl) (by rfl)) sx_nil)))))) sx_nil (fun _ => rfl)
   case nu => exact (se_call (n := 0) O (by show 0 < 2; omega) (sn_global O (by rfl) (by rfl) (by rfl)) (.ref (by rfl)) (sl_cons (se_call (n := 0) O (by show 0 < 2; omega) (sn_builtin O (by rfl) boot_range (by decide) (by rfl) (by rfl)) (.ty _) (sl_cons se_int (sl_cons (se_bin (se_name O 4 rfl rfl) se_int op_add) sl_nil)) c_range2 (.cons rfl rfl) rfl) sl_nil) k239.call (.cons rfl rfl) rfl)
   case wy =>
    refine' (se_call (n := 0) O (by show 0 < 2; omega) (sn_global O (by rfl) (by rfl) (by rfl)) (.ref (by rfl)) (sl_cons (se_bin (se_comp (tgt := fun _ => True) O true ?c) (se_list (sl_cons (se_bin (se_name O 4 rfl rfl) se_int op_add) sl_nil)) op_add) sl_nil) k239.call (.cons rfl rfl) rfl)
    case c => exact ct1 (ys := ["x"]) (cs := [4]) (cb_of (by rfl) (by rfl) (by rfl) (by rfl) (by rfl) (fun i h => by simp at h; subst h; exact ⟨_, _, rfl, by rfl, by rfl⟩) (by rfl)) trivial (sq_rev O (sn_builtin O (by rfl) boot_reversed (by decide) (by rfl) (by rfl)) (sl_cons (se_slice (se_name O 1 rfl rfl) sp_none (sp_some (se_bin (se_name O 3 rfl rfl) se_int op_add)) sp_none (fun _ _ => ⟨_, rfl⟩)) sl_nil) (.cons rfl rfl) rfl) (fun _ => rfl) (fun g' C OΨ => sa_name OΨ 0 rfl (fun h => absurd rfl h)) (fun _ _ _ => sc_nil) (fun g' C OΨ => se_bin (se_name OΨ 1 rfl rfl) (se_name OΨ 0 rfl rfl) op_sub) (keeps_name (by decide))
   case a1 => exact (se_callC (n := 1) O Fo (by show 1 < 2; omega) (sn_global O (by rfl) (by rfl) (by rfl)) (.ref (by rfl)) (sl_cons (se_name O 5 rfl rfl) (sl_cons (se_name O 6 rfl rfl) sl_nil)) k189.frz (.cons rfl rfl) rfl)
   case a2 => exact se_revT (se_callC (n := 1) O Fo (by show 1 < 2; omega) (sn_global O (by rfl) (by rfl) (by rfl)) (.ref (by rfl)) (sl_cons (se_name O 6 rfl rfl) (sl_cons (se_name O 5 rfl rfl) sl_nil)) k189.frz (.cons rfl rfl) rfl) (sp_some (se_neg se_int)) (fun _ _ => ⟨_, rfl⟩)
   case be => exact se_ite (sb_cmp (se_name O 4 rfl rfl) se_int (op_eq O)) (se_call (n := 0) O (by show 0 < 2; omega) (sn_global O (by rfl) (by rfl) (by rfl)) (.ref (by rfl)) (sl_cons (se_list (sl_cons se_int (sl_cons se_int sl_nil))) sl_nil) k239.call (.cons rfl rfl) rfl) (se_bin (se_list (sl_cons se_int sl_nil)) (se_call (n := 0) O (by show 0 < 2; omega) (sn_global O (by rfl) (by rfl) (by rfl)) (.ref (by rfl)) (sl_cons (se_list (sl_cons (se_bin (se_name O 4 rfl rfl) se_int op_add) sl_nil)) sl_nil) k239.call (.cons rfl rfl) rfl) op_add)
   case du =>
    refine' se_tuple (sl_cons (se_comp (tgt := fun _ => True) O true ?c) (sl_cons (se_name O 8 rfl rfl) sl_nil))
    case c => exact ct1 (ys := ["x"]) (cs := [4]) (cb_of (by rfl) (by rfl) (by rfl) (by rfl) (by rfl) (fun i h => by simp at h; subst h; exact ⟨_, _, rfl, by rfl, by rfl⟩) (by rfl)) trivial (sq_rev O (sn_builtin O (by rfl) boot_reversed (by decide) (by rfl) (by rfl)) (sl_cons (se_name O 0 rfl rfl) sl_nil) (.cons rfl rfl) rfl) (fun _ => rfl) (fun g' C OΨ => sa_name OΨ 0 rfl (fun h => absurd rfl h)) (fun g' C OΨ => sc_one (sb_cmp (se_name OΨ 0 rfl rfl) (se_name OΨ 1 rfl rfl) op_lt)) (fun g' C OΨ => se_bin (se_name OΨ 1 rfl rfl) (se_name OΨ 0 rfl rfl) op_sub) (keeps_name (by decide))
   case ex =>
    refine' se_extend O A 2 rfl rfl (se_sub (se_name O 7 rfl rfl) se_int (op_idx (fun _ _ => by with_unfolding_all rfl))) ?g1 ?g2
    case g1 => rfl
    case g2 => rfl
noncomputable def F244 : List V → List AO → Option (V × List AO) := bodyF n244 (bindP ["lows", "highs"]) P244.1
section
variable {w : World} {p : Program} {loose : List Str} {mean : ExcName → Option Value} {mg mb : Str → Option Value}
theorem k244 : FnOkC (Wc w p loose mean mg mb) 2 (.ref 244) F244 := P244.2 _ _ _ _ _ _
end
end
end
section
section
theorem boot_ord' : bootBuiltins "ord" = some (.builtin "ord") := by kernel_rfl
theorem boot_divmod' : bootBuiltins "divmod" = some (.builtin "divmod") := by kernel_rfl
theorem boot_type' : bootBuiltins "type" = some (.type "type") := by kernel_rfl
theorem boot_int' : bootBuiltins "int" = some (.type "int") := by kernel_rfl
section
variable {W : Wd} {Φ : Fx}
theorem se_typ {e : Expr} {n : String} (h : SN W Φ e (.type n)) : SE W Φ e (fun _ H => some (.typ n, H)) := fun loc H v H' ρ s Q E hf S k => by
 cases hf
 exact h _ _ _ _ _ _ S (k _ _ ρ .refl S (.typ _))
end
noncomputable abbrev n249 : List (Str × Option Nat) := [("signs", none), ("step", some 0), ("pick", none), ("path", some 1), ("sign", none), ("count", none), ("told", some 2), ("places", none), ("which", none), ("tail", none), ("piece", none)]
noncomputable def P249 : { B : SF // ∀ w p loose mean mg mb, FnOk (Wc w p loose mean mg mb) 2 (.ref 249) (bodyF n249 (bindP ["signs", "step", "pick"]) B) } := by
 refine ⟨?B, fun w p loose mean mg mb => fn_ok (fo := ?fo) (fd := ?fd) (body := ?body) ?ho ?hd ?hb ?hcl ?hgl ?hbi ?hcd ?hco ?hgen ?hk ?hbind ?hbody⟩
 case ho => exact rfl
 case hd => exact rfl
 case hb => exact rfl
 case hcl => rfl
 case hgl => rfl
 case hbi => rfl
 case hcd => rfl
 case hco => rfl
 case hgen => rfl
 case hk => decide
 case hbind => exact bnd3 (fun X Y Z => rfl) (by decide) (by decide) (by decide)
 case hbody =>
  intro A g L base fr O
  refine' sx_cons (sx_assign O 3 rfl ?ac (fun _ => by rfl) (by rfl)) (sx_cons ?l1 (sx_cons ?l2 (sx_cons (sx_return se_none) sx_nil)))
  case ac => exact (se_call (n := 1) O (by show 1 < 2; omega) (sn_global O (by rfl) (by rfl) (by rfl)) (.ref (by rfl)) sl_nil c178.call .nil rfl)
  case l1 =>
   refine' sx_for (tgt := fun _ => True) O trivial (sq_val (se_name O 0 rfl rfl)) (sa_name O 4 rfl (fun h => absurd rfl h)) (sx_cons (sx_if (sb_cmp ?ps se_none op_isnt) (sx_cons (sx_return se_none) sx_nil) sx_nil) sx_nil) sx_nil (fun _ => rfl)
   case ps =>
    refine' se_meth (n := 1) O (by show 1 < 2; omega) (se_name O 3 rfl rfl) (sg178 (f := 122) ?g1 ?g2) (.ref ?g3) (sl_cons se_str (sl_cons (se_name O 4 rfl rfl) sl_nil)) (.cons rfl rfl) k122.call ?g4
    case g1 => rfl
    case g2 => rfl
    case g3 => rfl
    case g4 => rfl
  case l2 =>
   refine' sx_for (tgt := fun _ => True) O trivial (sq_range O (sn_builtin O (by rfl) boot_range (by decide) (by rfl) (by rfl)) (sl_cons (se_bin (se_call (n := 0) O (by show 0 < 2; omega) (sn_builtin O (by rfl) boot_len (by decide) (by rfl) (by rfl)) (.bi _) (sl_cons (se_name O 0 rfl rfl) sl_nil) c_len (.cons rfl rfl) rfl) se_int op_add) sl_nil) (.cons rfl rfl) rfl) (sa_name O 5 rfl (fun h => absurd rfl h)) (sx_cons ?s1 (sx_cons ?s2 (sx_cons ?s3 (sx_cons ?s4 (sx_cons ?s5 (sx_cons ?s6 (sx_cons ?s7 (sx_cons ?s8 sx_nil)))))))) sx_nil (fun _ => rfl)
   case s1 =>
    refine' sx_assign O 6 rfl (se_comp (tgt := fun _ => True) O true ?c) (fun _ => by rfl) (by rfl)
    case c => exact ct1 (ys := ["k"]) (cs := [3, 1]) (cb_of (by rfl) (by rfl) (by rfl) (by rfl) (by rfl) (fun i h => by simp at h; rcases h with rfl | rfl <;> exact ⟨_, _, rfl, by rfl, by rfl⟩) (by rfl)) trivial (sq_range O (sn_builtin O (by rfl) boot_range (by decide) (by rfl) (by rfl)) (sl_cons (se_bin (se_call (n := 0) O (by show 0 < 2; omega) (sn_builtin O (by rfl) boot_len (by decide) (by rfl) (by rfl)) (.bi _) (sl_cons (se_name O 0 rfl rfl) sl_nil) c_len (.cons rfl rfl) rfl) (se_name O 1 rfl rfl) op_sub) sl_nil) (.cons rfl rfl) rfl) (fun _ => rfl) (fun g' C OΨ => sa_name OΨ 0 rfl (fun h => absurd rfl h)) (fun _ _ _ => sc_nil) (fun g' C OΨ => (se_call (n := 0) OΨ (by show 0 < 2; omega) (sn_global OΨ (by rfl) (by rfl) (by rfl)) (.ref (by rfl)) (sl_cons (se_sub (se_name OΨ 1 rfl rfl) (se_name OΨ 0 rfl rfl) (op_idxA OΨ sub178 (fun _ _ => by with_unfolding_all rfl))) (sl_cons (se_sub (se_name OΨ 1 rfl rfl) (se_bin (se_name OΨ 0 rfl rfl) (se_name OΨ 2 rfl rfl) op_add) (op_idxA OΨ sub178 (fun _ _ => by with_unfolding_all rfl))) sl_nil)) k203.call (.cons rfl rfl) rfl)) (keeps_name (by decide))
   case s2 =>
    refine' sx_if (sb_cmp (se_name O 6 rfl rfl) (se_comp (tgt := fun _ => True) O true ?c) (op_ne O)) (sx_cons (sx_return se_none) sx_nil) sx_nil
    case c => exact ct1 (ys := ["k"]) (cs := [3, 1]) (cb_of (by rfl) (by rfl) (by rfl) (by rfl) (by rfl) (fun i h => by simp at h; rcases h with rfl | rfl <;> exact ⟨_, _, rfl, by rfl, by rfl⟩) (by rfl)) trivial (sq_range O (sn_builtin O (by rfl) boot_range (by decide) (by rfl) (by rfl)) (sl_cons (se_bin (se_call (n := 0) O (by show 0 < 2; omega) (sn_builtin O (by rfl) boot_len (by decide) (by rfl) (by rfl)) (.bi _) (sl_cons (se_name O 0 rfl rfl) sl_nil) c_len (.cons rfl rfl) rfl) (se_name O 1 rfl rfl) op_sub) sl_nil) (.cons rfl rfl) rfl) (fun _ => rfl) (fun g' C OΨ => sa_name OΨ 0 rfl (fun h => absurd rfl h)) (fun _ _ _ => sc_nil) (fun g' C OΨ => (se_bin (se_call (n := 0) OΨ (by show 0 < 2; omega) (sn_builtin OΨ (by rfl) boot_ord' (by decide) (by rfl) (by rfl)) (.bi _) (sl_cons (se_sub (se_sub (se_name OΨ 1 rfl rfl) (se_name OΨ 0 rfl rfl) (op_idxA OΨ sub178 (fun _ _ => by with_unfolding_all rfl))) se_int (op_idx (fun _ _ => by with_unfolding_all rfl))) sl_nil) c_ord (.cons rfl rfl) rfl) (se_call (n := 0) OΨ (by show 0 < 2; omega) (sn_builtin OΨ (by rfl) boot_ord' (by decide) (by rfl) (by rfl)) (.bi _) (sl_cons (se_sub (se_sub (se_name OΨ 1 rfl rfl) (se_bin (se_name OΨ 0 rfl rfl) (se_name OΨ 2 rfl rfl) op_add) (op_idxA OΨ sub178 (fun _ _ => by with_unfolding_all rfl))) se_int (op_idx (fun _ _ => by with_unfolding_all rfl))) sl_nil) c_ord (.cons rfl rfl) rfl) op_sub)) (keeps_name (by decide))
   case s3 =>
    refine' sx_if (sb_cmp (se_comp (tgt := fun _ => True) O true ?c) (se_list sl_nil) (op_ne O)) (sx_cons (sx_return se_none) sx_nil) sx_nil
    case c => exact ct1 (ys := ["x"]) (cs := []) (cb_of (by rfl) (by rfl) (by rfl) (by rfl) (by rfl) (fun i h => by cases h) (by rfl)) trivial (sq_val (se_name O 6 rfl rfl)) (fun _ => rfl) (fun g' C OΨ => sa_name OΨ 0 rfl (fun h => absurd rfl h)) (fun g' C OΨ => sc_one (sb_cmp (se_call (n := 0) OΨ (by show 0 < 2; omega) (sn_builtin OΨ (by rfl) boot_type' (by decide) (by rfl) (by rfl)) (.ty _) (sl_cons (se_name OΨ 0 rfl rfl) sl_nil) c_type (.cons rfl rfl) rfl) (se_typ (sn_builtin OΨ (by rfl) boot_int' (by decide) (by rfl) (by rfl))) op_isnt)) (fun g' C OΨ => (se_name OΨ 0 rfl rfl)) (keeps_name (by decide))
   case s4 =>
    refine' sx_assign_comp (tgt := fun _ => True) O 7 true rfl ?c (by rfl)
    case c => exact ct1 (ys := ["k"]) (cs := [6]) (cb_of (by rfl) (by rfl) (by rfl) (by rfl) (by rfl) (fun i h => by simp at h; subst h <;> exact ⟨_, _, rfl, by rfl, by rfl⟩) (by rfl)) trivial (sq_range O (sn_builtin O (by rfl) boot_range (by decide) (by rfl) (by rfl)) (sl_cons (se_call (n := 0) O (by show 0 < 2; omega) (sn_builtin O (by rfl) boot_len (by decide) (by rfl) (by rfl)) (.bi _) (sl_cons (se_name O 6 rfl rfl) sl_nil) c_len (.cons rfl rfl) rfl) sl_nil) (.cons rfl rfl) rfl) (fun _ => rfl) (fun g' C OΨ => sa_name OΨ 0 rfl (fun h => absurd rfl h)) (fun g' C OΨ => sc_one (sb_cmp (se_sub (se_name OΨ 1 rfl rfl) (se_name OΨ 0 rfl rfl) (op_idx (fun _ _ => by with_unfolding_all rfl))) (se_neg se_int) (op_eq OΨ))) (fun g' C OΨ => (se_name OΨ 0 rfl rfl)) (keeps_name (by decide))
   case s5 =>
    exact sx_if (sb_cmp (se_name O 7 rfl rfl) (se_list sl_nil) (op_eq O)) (sx_cons (sx_return (se_tuple (sl_cons (se_call (n := 1) O (by show 1 < 2; omega) (sn_builtin O (by rfl) boot_str (by decide) (by rfl) (by rfl)) (.ty _) (sl_cons (se_name O 3 rfl rfl) sl_nil) (c_strA (C := 178) (f := 152) f152.call (by rfl) (by rfl)) (.cons rfl rfl) rfl) (sl_cons (se_name O 5 rfl rfl) sl_nil)))) sx_nil) sx_nil
   case s6 =>
    exact sx_assign_tup (se_call (n := 0) O (by show 0 < 2; omega) (sn_builtin O (by rfl) boot_divmod' (by decide) (by rfl) (by rfl)) (.bi _) (sl_cons (se_name O 2 rfl rfl) (sl_cons (se_call (n := 0) O (by show 0 < 2; omega) (sn_builtin O (by rfl) boot_len (by decide) (by rfl) (by rfl)) (.bi _) (sl_cons (se_name O 7 rfl rfl) sl_nil) c_len (.cons rfl rfl) rfl) sl_nil)) c_divmod (.cons rfl rfl) rfl) (sa_tup2 O (sa_name O 2 rfl (fun h => absurd rfl h)) (sa_name O 8 rfl (fun h => absurd rfl h)))
   case s7 =>
    refine' sx_assign O 9 rfl ?m (fun h => absurd rfl h) (by rfl)
    case m =>
     refine' se_meth (n := 1) O (by show 1 < 2; omega) (se_name O 3 rfl rfl) (sg178 (f := 130) ?g1 ?g2) (.ref ?g3) (sl_cons (se_sub (se_name O 7 rfl rfl) (se_name O 8 rfl rfl) (op_idx (fun _ _ => by with_unfolding_all rfl))) sl_nil) (.cons rfl rfl) k130.call ?g4
     case g1 => rfl
     case g2 => rfl
     case g3 => rfl
     case g4 => rfl
   case s8 =>
    refine' sx_for (tgt := fun _ => True) O trivial (sq_val (se_bin (se_bin (se_bin (se_list (sl_cons (se_sub (se_name O 9 rfl rfl) (se_name O 1 rfl rfl) (op_idx (fun _ _ => by with_unfolding_all rfl))) sl_nil)) (se_slice (se_name O 9 rfl rfl) (sp_some se_int) (sp_some (se_name O 1 rfl rfl)) sp_none (fun _ _ => ⟨_, rfl⟩)) op_add) (se_list (sl_cons (se_sub (se_name O 9 rfl rfl) se_int (op_idx (fun _ _ => by with_unfolding_all rfl))) sl_nil)) op_add) (se_slice (se_name O 9 rfl rfl) (sp_some (se_bin (se_name O 1 rfl rfl) se_int op_add)) sp_none sp_none (fun _ _ => ⟨_, rfl⟩)) op_add)) (sa_name O 10 rfl (fun h => absurd rfl h)) (sx_cons (sx_expr ?m (by rfl) (by rfl)) sx_nil) sx_nil (fun _ => rfl)
    case m =>
     refine' se_methStar (n := 1) O (by show 1 < 2; omega) (se_name O 3 rfl rfl) (sgb_sub (C := 178) (f := 122) ?h1 ?h2 ?h3 ?h4 ?h5 ?h6 ?h7 ?h8 ?h9) ?g3 (se_name O 10 rfl rfl) k122 ?g4 ?g5
     case h1 => rfl
     case h2 => rfl
     case h3 => rfl
     case h4 => rfl
     case h5 => rfl
     case h6 => rfl
     case h7 => rfl
     case h8 => rfl
     case h9 => rfl
     case g3 => rfl
     case g4 => rfl
     case g5 => rfl
noncomputable def F249 : List V → List AO → Option (V × List AO) := bodyF n249 (bindP ["signs", "step", "pick"]) P249.1
section
variable {w : World} {p : Program} {loose : List Str} {mean : ExcName → Option Value} {mg mb : Str → Option Value}
theorem k249 : FnOk (Wc w p loose mean mg mb) 2 (.ref 249) F249 := P249.2 _ _ _ _ _ _
end
end
end
section
section
noncomputable def SEn (N : Nat) (W : Wd) (Φ : Fx) (e : Expr) (f : EF) : Prop := ∀ loc H v H' ρ s (Q : Value → Shared → Prop) (E : Value → Shared → Prop), N ≤ s.toks → f loc H = some (v, H') → SI W Φ ρ loc H s →
 SE.K W Φ ρ loc s Q v H' → wpAny W.M Φ.A (eval e Φ.env) Q E s
noncomputable def SXn (N : Nat) (W : Wd) (Φ : Fx) (t : Sem Flow) (f : SF) : Prop := ∀ loc H r loc' H' ρ s (Q : Flow → Shared → Prop) (E : Value → Shared → Prop), N ≤ s.toks → f loc H = some (r, loc', H') → SI W Φ ρ loc H s →
 SX.K W Φ ρ s Q r loc' H' → wpAny W.M Φ.A t Q E s
section
variable {W : Wd} {Φ : Fx} {ρ ρ' : List Cell} {loc : Loc} {H H' : List AO} {s s1 s' : Shared} {tgt : Expr → Prop} {N : Nat}
theorem SE.n {e : Expr} {f : EF} (h : SE W Φ e f) : SEn N W Φ e f := fun _ _ _ _ _ _ _ _ _ hf S k => h _ _ _ _ _ _ _ _ hf S k
theorem SX.n {t : Sem Flow} {f : SF} (h : SX W Φ t f) : SXn N W Φ t f := fun _ _ _ _ _ _ _ _ _ _ hf S k => h _ _ _ _ _ _ _ _ _ hf S k
theorem sm_emitN {i : Nat} {D : Addr} {elt : Expr} {f : EF} (he : SEn N W Φ elt f) : SMn N W Φ (fun ρ => ρ[i]? = some (D, none)) (do let _ ← call (.builtin "list.append") [.ref D, ← eval elt Φ.env]) (emitF i f) := fun loc H loc' H' ρ s Q E hN hf S z k => obp2 hf fun v H1 e1 hf => wp_emit z hf k fun Q k => he _ _ _ _ _ _ _ _ hN e1 S k
end
end
end
section
section
section
variable {W : Wd} {Φ : Fx} {ρ ρ' : List Cell} {loc : Loc} {H H' : List AO} {s s1 s' : Shared} {tgt : Expr → Prop} {N : Nat}
theorem wp_name (O : Φ.Ok W) (i : Nat) {x : Str} {k : Option Addr} {pos : Pos} (hn : Φ.names[i]? = some (x, k)) (hd : (x == ("__debug__" : Str)) = false) {v : V} {Q : Value → Shared → Prop} {E : Value → Shared → Prop} (hl : loc[i]? = some (some v))
  (S : SI W Φ ρ loc H s) (kk : ∀ X, VR (Φ.P ρ s.heap) ρ v X → Q X s) : wpAny W.M Φ.A (eval (.Name x pos) Φ.env) Q E s := raw_name O i hn hd hl S kk
noncomputable def repV (x w : Str) : Str := Txt.replace x w (w ++ "|")
theorem wp_replace (O : Φ.Ok W) (i j : Nat) {x y : Str} {kx ky : Option Addr} {p1 p2 p3 ap pos bp cp : Pos} {k0 : Nat} (hn : Φ.names[i]? = some (x, kx)) (hm : Φ.names[j]? = some (y, ky)) (hd : (x == ("__debug__" : Str)) = false) (hd2 : (y == ("__debug__" : Str)) = false)
  {w t : Str} {u : Tok} (hw : loc[i]? = some (some (.tok (.str w u)))) (ht : loc[j]? = some (some (.str t))) (h0 : 0 < u) (h1 : u < N) (hN : N ≤ s.toks) (hwl : w.length ≤ 10 ∧ (w.length == 0) = false) (htl : t.length ≤ 1000) (hne : (w == w ++ ("|" : Str)) = false)
  {Q : Value → Shared → Prop} {E : Value → Shared → Prop} (S : SI W Φ ρ loc H s) {pl : Sem Bool}
  (hp1 : starEach [.Name x p1, .BinOp (.Name x p2) .Add (.Constant (.str "|") k0 cp) bp] Φ.env = (false, eval (.Name x p1) Φ.env) :: starEach [.BinOp (.Name x p2) .Add (.Constant (.str "|") k0 cp) bp] Φ.env)
  (hp2 : starEach [.BinOp (.Name x p2) .Add (.Constant (.str "|") k0 cp) bp] Φ.env = (false, eval (.BinOp (.Name x p2) .Add (.Constant (.str "|") k0 cp) bp) Φ.env) :: starEach [] Φ.env)
  (hp3 : (backTo pos (starEach [.BinOp (.Name x p2) .Add (.Constant (.str "|") k0 cp) bp] Φ.env)).any (·.1) = false)
  (he : eval (.Call (.Attribute (.Name y p3) "replace" ap) [.Name x p1, .BinOp (.Name x p2) .Add (.Constant (.str "|") k0 cp) bp] [] pos) Φ.env = (do
   let ov ← eval (.Name y p3) Φ.env
   standAt ap.atName
   let (f, first) ← holding [ov] (getMethod ov "replace" pl)
   callWith pos f first (backTo pos (starEach [.Name x p1, .BinOp (.Name x p2) .Add (.Constant (.str "|") k0 cp) bp] Φ.env)) []))
  (k : ∀ t' tk, Q (.str (repV t w) t') { s with toks := tk }) : wpAny W.M Φ.A (eval (.Call (.Attribute (.Name y p3) "replace" ap) [.Name x p1, .BinOp (.Name x p2) .Add (.Constant (.str "|") k0 cp) bp] [] pos) Φ.env) Q E s := by
 refine MethodCall_ (wp_name O j hm hd2 ht S fun X1 v1 => ?_) he
 cases v1
 rename_i u1
 refine (by with_reducible exact GM.replace : _ → _) ?_
 refine callWith_method1 (args_cons (wp_name O i hn hd hw S fun X2 v2 => ?_) hp1) hp1 hp3
 cases v2
 refine args_cons (wpAny_BinOp (wp_name O i hn hd hw S fun X3 v3 => wpAny_Constant_str ?_)) hp2
 cases v3
 refine P.add_str ?_
 have e1 : (("|" : Str).length == 0) = false := by rfl
 rw [hwl.2, e1]
 simp only [Bool.false_eq_true, if_false]
 refine ⟨?_, args_nil ?_⟩
 ·have : (w ++ ("|" : Str)).length ≤ 11 := by rw [Str.length_append]; have := hwl.1; show w.length + 1 ≤ 11; omega
  show (w ++ ("|" : Str)).length ≤ sizeLine
  rw [sizeLine_eq]; omega
 ·refine SC.replaceW ?_ ?_ ?_ hne (by omega) ?_ fun t' tk => ?_
  ·exact Nat.pos_iff_ne_zero.mp h0
  ·exact Nat.succ_ne_zero _
  ·intro q
   have q : u = s.toks + 1 := q
   have h2 : s.toks + 1 < N := by rw [← q]; exact h1
   exact Nat.lt_irrefl _ (Nat.lt_of_lt_of_le (Nat.lt_of_le_of_lt (Nat.le_succ s.toks) h2) hN)
  ·rw [Str.length_append]; have := hwl.1; show w.length + 1 ≤ 14; omega
  ·exact k _ _
theorem wp_methAt {o : Expr} {name : Str} {apos pos : Pos} {args : List Expr} {u : V} {us : List V} {H1 H2 : List AO} {v : V} {g : LF} {fv : Value} {D : List AO → V → Bool} {F} {n : Nat} {pl : Sem Bool} {Q : Value → Shared → Prop} {E : Value → Shared → Prop} (O : Φ.Ok W) (hn : n < Φ.lv)
  (ho : ∀ (Q : Value → Shared → Prop) (E : Value → Shared → Prop), (∀ X s1 ρ1, Stp Φ ρ ρ1 s s1 → SI W Φ ρ1 loc H1 s1 → VR (Φ.P ρ1 s1.heap) ρ1 u X → Q X s1) → wpAny W.M Φ.A (eval o Φ.env) Q E s) (hg : SGm W name fv D) (hk : KeepOk W fv) (ha : SL W Φ pos args g) (hp : Plain Φ.env pos args) (hc : CallOk W n fv F)
  (hD : D H1 u = true) (e2 : g loc H1 = some (us, H2)) (e3 : F (u :: us) H2 = some (v, H'))
  (he : eval (.Call (.Attribute o name apos) args [] pos) Φ.env = (do
   let ov ← eval o Φ.env
   standAt apos.atName
   let (f, first) ← holding [ov] (getMethod ov name pl)
   callWith pos f first (backTo pos (starEach args Φ.env)) []))
  (k : ∀ X s' ρ', Stp Φ ρ ρ' s s' → SI W Φ ρ' loc H' s' → VR (Φ.P ρ' s'.heap) ρ' v X → Q X s') : wpAny W.M Φ.A (eval (.Call (.Attribute o name apos) args [] pos) Φ.env) Q E s :=
 MethodCall_ (ho _ _ fun X s1 ρ1 t1 S1 v1 => hg Φ O _ _ _ _ _ _ _ _ _ hD S1 v1 (wp_args O hk ha hp e2 S1 fun Xs s2 ρ2 t2 S2 v2 => hc Φ O hn _ _ _ _ _ _ _ _ _ _ e3 S2 (.cons (t2.mono v1) v2) fun Y s3 ρ3 t3 S3 v3 => k _ _ _ ((t1.trans t2).trans t3) S3 v3)) he
theorem sqat_val {e : Expr} {v : V} {xs : List V} (e2 : itemsV v = some xs)
  (he : ∀ (Q : Value → Shared → Prop) (E : Value → Shared → Prop), (∀ X s1 ρ1, Stp Φ ρ ρ1 s s1 → SI W Φ ρ1 loc H' s1 → VR (Φ.P ρ1 s1.heap) ρ1 v X → N ≤ s1.toks → Q X s1) → wpAny W.M Φ.A (eval e Φ.env) Q E s) : SQat N W Φ e tgt xs H' ρ loc s := fun Q E k =>
 he _ _ fun X s1 ρ1 t1 S1 v1 hN1 => wpAny_with_toks hN1 (src_val (fun _ _ z => z.1) e2 v1 (k _ _ t1 S1))
theorem sqat_two {x y : Str} {k1 k2 : Nat} {q1 q2 pos : Pos} (S : SI W Φ ρ loc H s)
  (hp1 : starEach [.Constant (.str x) k1 q1, .Constant (.str y) k2 q2] Φ.env = (false, eval (.Constant (.str x) k1 q1) Φ.env) :: starEach [.Constant (.str y) k2 q2] Φ.env)
  (hp2 : starEach [.Constant (.str y) k2 q2] Φ.env = (false, eval (.Constant (.str y) k2 q2) Φ.env) :: starEach [] Φ.env) :
  SQat (s.toks + 2) W Φ (.List [.Constant (.str x) k1 q1, .Constant (.str y) k2 q2] pos) tgt [.tok (.str x s.toks), .tok (.str y (s.toks + 1))] H ρ loc s :=
 sqat_val (v := .lst [.tok (.str x s.toks), .tok (.str y (s.toks + 1))]) rfl fun Q E k => by
  refine wpAny_List (args_cons (wpAny_Constant_str (args_cons (wpAny_Constant_str (args_nil ⟨?_, ?_⟩)) hp2)) hp1)
  ·rw [sizeLine_eq]; simp
  ·have k1 : Kp s { s with heap := s.heap.push (lstO [.str x s.toks, .str y (s.toks + 1)] 0), toks := s.toks + 1 + 1 } := Kp.push
   exact k _ _ ρ k1.stp (S.kept k1) (.lst (S.got rfl) (.cons (.tok _ rfl) (.cons (.tok _ rfl) .nil))) (Nat.le_refl _)
theorem ct1n {elt target iter : Expr} {ifs : List Expr} {sc : Scope} {pos : Pos} {cl : List (Str × Addr)} {ys : List Str} {cs : List Nat} {tf : GF} {tests : TF} {f : EF} (B : CB Φ sc cl ys cs) (ht : tgt target) (hs : ∀ x, foldedSetIterable iter Φ.env x = pure x)
  (hA : AllC W Φ sc cl ys cs fun Ψ => SA W Ψ target tf) (hC : AllC W Φ sc cl ys cs fun Ψ => SC W Ψ ifs tests) (hE : AllC W Φ sc cl ys cs fun Ψ => SEn N W Ψ elt f) (kT : KeepsD ys.length tf) :
  CTn N W Φ (.ListComp elt [⟨target, iter, ifs, 0⟩] sc pos) elt [⟨target, iter, ifs, 0⟩] sc pos ⟨target, iter, ifs, 0⟩ cl ys cs tgt tf tests (fun i => emitF i f) where
 he := rfl
 hg := ⟨[], rfl⟩
 ha := rfl
 B := B
 ht := ht
 hs := hs
 body := fun g' C D i0 OΨ => ⟨_, fun it => turn1 _ _ _ _ _ _ _ _ _, hA g' C OΨ, hC g' C OΨ, sm_emitN (hE g' C OΨ)⟩
 keepT := kT
 keepE := fun i => emit_keep
noncomputable def innerG (tf : GF) (tests : TF) (em : Nat → MF) (ys : List Str) (t w : Str) (H : List AO) : Option (V × List AO) :=
 if (w.length ≤ 10 ∧ (w.length == 0) = false) ∧ t.length ≤ 1000 ∧ (w == w ++ ("|" : Str)) = false then
  (splitF [.str (repV t w), .str "|"] H).bind fun p => (itemsV p.1).bind fun xs =>
   ((compL tf tests (em p.2.length) xs (cLoc [] ys []) (p.2 ++ [.list []])).map fun r => (V.ref p.2.length, r.2)).bind fun q => fzF true H.length q.1 q.2
 else none
noncomputable def innerTF (N : Nat) (tf : GF) (tests : TF) (em : Nat → MF) (ys : List Str) : EF := fun loc H => match (loc[0]? : Option (Option V)), (loc[1]? : Option (Option V)) with
 | some (some (V.tok (.str w u))), some (some (V.str t)) => if 0 < u ∧ u < N then innerG tf tests em ys t w H else none
 | _, _ => none
noncomputable def PartsAt (N : Nat) (W : Wd) (Φ : Fx) (it : Expr) : Prop := ∀ loc H v H' ρ s t w u (Q : Value → Shared → Prop) (E : Value → Shared → Prop), N ≤ s.toks → loc[0]? = some (some (.tok (.str w u))) → loc[1]? = some (some (.str t)) → 0 < u → u < N →
 ((w.length ≤ 10 ∧ (w.length == 0) = false) ∧ t.length ≤ 1000 ∧ (w == w ++ ("|" : Str)) = false) → splitF [.str (repV t w), .str "|"] H = some (v, H') → SI W Φ ρ loc H s →
 (∀ X s1 ρ1, Stp Φ ρ ρ1 s s1 → SI W Φ ρ1 loc H' s1 → VR (Φ.P ρ1 s1.heap) ρ1 v X → Q X s1) → wpAny W.M Φ.A (eval it Φ.env) Q E s
theorem parts_at (O : Φ.Ok W) (hlv : 0 < Φ.lv) {x y : Str} {kx ky : Option Addr} {p1 p2 p3 ap pos bp cp a2 c2 q2 : Pos} {k0 k1 : Nat} (hn : Φ.names[0]? = some (x, kx)) (hm : Φ.names[1]? = some (y, ky)) (hd : (x == ("__debug__" : Str)) = false) (hd2 : (y == ("__debug__" : Str)) = false) {pl pl2 : Sem Bool}
  (hp1 : starEach [.Name x p1, .BinOp (.Name x p2) .Add (.Constant (.str "|") k0 cp) bp] Φ.env = (false, eval (.Name x p1) Φ.env) :: starEach [.BinOp (.Name x p2) .Add (.Constant (.str "|") k0 cp) bp] Φ.env)
  (hp2 : starEach [.BinOp (.Name x p2) .Add (.Constant (.str "|") k0 cp) bp] Φ.env = (false, eval (.BinOp (.Name x p2) .Add (.Constant (.str "|") k0 cp) bp) Φ.env) :: starEach [] Φ.env)
  (hp3 : (backTo pos (starEach [.BinOp (.Name x p2) .Add (.Constant (.str "|") k0 cp) bp] Φ.env)).any (·.1) = false)
  (he : eval (.Call (.Attribute (.Name y p3) "replace" ap) [.Name x p1, .BinOp (.Name x p2) .Add (.Constant (.str "|") k0 cp) bp] [] pos) Φ.env = (do
   let ov ← eval (.Name y p3) Φ.env
   standAt ap.atName
   let (f, first) ← holding [ov] (getMethod ov "replace" pl)
   callWith pos f first (backTo pos (starEach [.Name x p1, .BinOp (.Name x p2) .Add (.Constant (.str "|") k0 cp) bp] Φ.env)) []))
  (hpl : Plain Φ.env q2 [.Constant (.str "|") k1 c2])
  (he2 : eval (.Call (.Attribute (.Call (.Attribute (.Name y p3) "replace" ap) [.Name x p1, .BinOp (.Name x p2) .Add (.Constant (.str "|") k0 cp) bp] [] pos) "split" a2) [.Constant (.str "|") k1 c2] [] q2) Φ.env = (do
   let ov ← eval (.Call (.Attribute (.Name y p3) "replace" ap) [.Name x p1, .BinOp (.Name x p2) .Add (.Constant (.str "|") k0 cp) bp] [] pos) Φ.env
   standAt a2.atName
   let (f, first) ← holding [ov] (getMethod ov "split" pl2)
   callWith q2 f first (backTo q2 (starEach [.Constant (.str "|") k1 c2] Φ.env)) [])) :
  PartsAt N W Φ (.Call (.Attribute (.Call (.Attribute (.Name y p3) "replace" ap) [.Name x p1, .BinOp (.Name x p2) .Add (.Constant (.str "|") k0 cp) bp] [] pos) "split" a2) [.Constant (.str "|") k1 c2] [] q2) := fun loc H v H' ρ s t w u Q E hN hw ht h0 h1 hc e3 S k =>
 wp_methAt (n := 0) (u := .str (repV t w)) (H1 := H) O hlv (fun Q E k => wp_replace O 0 1 hn hm hd hd2 hw ht h0 h1 hN hc.1 hc.2.1 hc.2.2 S hp1 hp2 hp3 he fun t' tk => k _ _ ρ Kp.toks.stp (S.kept Kp.toks) (.str _ _)) sg_split (.bi _) (sl_cons se_str sl_nil) hpl c_split rfl rfl e3 he2 k
theorem se_inner {elt rt it : Expr} {ifs : List Expr} {sc : Scope} {cl : List (Str × Addr)} {ys : List Str} {tf : GF} {tests : TF} {em : Nat → MF} {pos : Pos} (O : Φ.Ok W) (hit : PartsAt N W Φ it)
  (T : CTn 0 W Φ (.ListComp elt [⟨rt, it, ifs, 0⟩] sc pos) elt [⟨rt, it, ifs, 0⟩] sc pos ⟨rt, it, ifs, 0⟩ cl ys [] tgt tf tests em) : SEn N W Φ (.ListComp elt [⟨rt, it, ifs, 0⟩] sc pos) (innerTF N tf tests em ys) := fun loc H v H' ρ s Q E hN hf S k => by
 unfold innerTF at hf
 split at hf
 ·rename_i w u t hw ht
  split at hf
  ·rename_i hu
   unfold innerG at hf
   split at hf
   ·rename_i hc
    refine obp2 hf fun a H1 e1 hf => ?_
    refine obp hf fun xs e2 hf => ?_
    exact wp_compN O true T (sqat_val e2 fun Q E k => hit _ _ _ _ _ _ _ _ _ _ _ hN hw ht hu.1 hu.2 hc e1 S fun X s1 ρ1 t1 S1 v1 => k X s1 ρ1 t1 S1 v1 (Nat.zero_le _)) S (loc := loc) (by unfold cLoc at hf ⊢; exact hf) k
   ·cases hf
  ·cases hf
 ·cases hf
noncomputable def outF (T : Nat) (tf2 : GF) (tests2 : TF) (em2 : Nat → MF) (ys2 : List Str) (i : Nat) : EF := fun loc H =>
 ((compL (fun v loc => some (loc.set 0 (some v))) (fun _ H => some (true, H)) (emitF H.length (innerTF (T + 2) tf2 tests2 em2 ys2)) [.tok (.str "ba" T), .tok (.str "ab" (T + 1))] (cLoc loc ["word"] [i]) (H ++ [.list []])).map (fun r => (V.ref H.length, r.2))).bind (fun p => fzF true H.length p.1 p.2)
theorem outF_eq {T : Nat} {tf2 : GF} {tests2 : TF} {em2 : Nat → MF} {ys2 : List Str} {i : Nat} (hT : 1 ≤ T) : outF T tf2 tests2 em2 ys2 i loc H = outF 1 tf2 tests2 em2 ys2 i loc H := by
 have a1 : 0 < T ∧ T < T + 2 := ⟨hT, by omega⟩
 have a2 : 0 < T + 1 ∧ T + 1 < T + 2 := ⟨by omega, by omega⟩
 unfold outF
 simp only [compL, stepC, if_true, cLoc, emitF, List.map_cons, List.map_nil, List.cons_append, List.nil_append, List.set_cons_zero, Option.bind_some]
 have e : ∀ (w : Str) (u v n m : Nat) (y : Option V) (h : List AO), (0 < u ∧ u < n) → (0 < v ∧ v < m) → innerTF n tf2 tests2 em2 ys2 [some (.tok (.str w u)), y] h = innerTF m tf2 tests2 em2 ys2 [some (.tok (.str w v)), y] h := fun w u v n m y h h1 h2 => by
  unfold innerTF
  cases y with
  | none => rfl
  | some y => cases y <;> simp [h1, h2]
 simp only [e "ba" T 1 (T + 2) (1 + 2) _ _ a1 ⟨by omega, by omega⟩, e "ab" (T + 1) (1 + 1) (T + 2) (1 + 2) _ _ a2 ⟨by omega, by omega⟩]
 cases innerTF (1 + 2) tf2 tests2 em2 ys2 [some (.tok (.str "ba" 1)), loc.getD i none] (H ++ [.list []]) with
 | none => rfl
 | some p =>
  simp only [Option.bind_some]
  cases appendTo H.length p.1 p.2 with
  | none => rfl
  | some q =>
   simp only [Option.map_some, Option.bind_some, if_true, List.set_cons_zero, e "ab" (T + 1) (1 + 1) (T + 2) (1 + 2) _ _ a2 ⟨by omega, by omega⟩]
   cases innerTF (1 + 2) tf2 tests2 em2 ys2 [some (.tok (.str "ab" (1 + 1))), loc.getD i none] q with
   | none => rfl
   | some p2 =>
    simp only [Option.bind_some]
    cases appendTo H.length p2.1 p2.2 <;> rfl
theorem se_fold {elt : Expr} {sc : Scope} {pos q1 q2 q3 : Pos} {k1 k2 : Nat} {cl : List (Str × Addr)} {p : Pos} {i : Nat} {tf2 : GF} {tests2 : TF} {em2 : Nat → MF} {ys2 : List Str} (O : Φ.Ok W) (B : CB Φ sc cl ["word"] [i])
  (hs : ∀ x, foldedSetIterable (.List [.Constant (.str "ba") k1 q1, .Constant (.str "ab") k2 q2] q3) Φ.env x = pure x)
  (hp1 : starEach [.Constant (.str "ba") k1 q1, .Constant (.str "ab") k2 q2] Φ.env = (false, eval (.Constant (.str "ba") k1 q1) Φ.env) :: starEach [.Constant (.str "ab") k2 q2] Φ.env)
  (hp2 : starEach [.Constant (.str "ab") k2 q2] Φ.env = (false, eval (.Constant (.str "ab") k2 q2) Φ.env) :: starEach [] Φ.env)
  (hE : ∀ N, AllC W Φ sc cl ["word"] [i] fun Ψ => SEn N W Ψ elt (innerTF N tf2 tests2 em2 ys2)) :
  SEn 1 W Φ (.ListComp elt [⟨.Name "word" p, .List [.Constant (.str "ba") k1 q1, .Constant (.str "ab") k2 q2] q3, [], 0⟩] sc pos) (outF 1 tf2 tests2 em2 ys2 i) := fun loc H v H' ρ s Q E hN hf S k => by
 rw [← outF_eq hN] at hf
 exact wp_compN (N := s.toks + 2) (tgt := fun _ => True) (ys := ["word"]) (cs := [i]) O true (ct1n B trivial hs (fun g' C OΨ => sa_name OΨ 0 rfl (fun h => absurd rfl h)) (fun _ _ _ => sc_nil) (hE _) (keeps_name (by decide))) (sqat_two S hp1 hp2) S hf k
end
end
end
section
section
section
variable {W : Wd} {Φ : Fx} {ρ ρ' : List Cell} {loc : Loc} {H H' : List AO} {s s1 s' : Shared} {N : Nat}
noncomputable def SBn (N : Nat) (W : Wd) (Φ : Fx) (e : Expr) (f : TF) : Prop := ∀ loc H b H' ρ s (Q : Bool → Shared → Prop) (E : Value → Shared → Prop), N ≤ s.toks → f loc H = some (b, H') → SI W Φ ρ loc H s →
 SB.K W Φ ρ loc s Q b H' → wpAny W.M Φ.A (isTrue e Φ.env (eval e Φ.env)) Q E s
theorem sbn_cmp {l r : Expr} {op : CmpOp} {pos : Pos} {f g : EF} {h} (hl : SE W Φ l f) (hr : SEn N W Φ r g) (ho : S2 W Φ (compareOp op) h) (hm : behindInMarks op r = false := by with_unfolding_all rfl) : SBn N W Φ (.Compare l [op] [r] pos) (testF (binF f g h)) := fun loc H b H' ρ s Q E hN hf S k => by
 unfold testF at hf
 refine obp2 hf fun v H1 e1 hf => ?_
 refine omp hf fun c e2 hf => ?_
 replace k := k.of hf
 unfold binF at e1
 refine obp2 e1 fun a H1 e1 e3 => ?_
 refine obp2 e3 fun b' H2 e4 e3 => ?_
 exact wpAny_isTrue_Compare1 (wpAny_with_toks (n := N) hN (hl _ _ _ _ _ _ _ _ e1 S fun X s1 ρ1 t1 S1 v1 hN1 => hr _ _ _ _ _ _ _ _ hN1 e4 S1 fun Y s2 ρ2 t2 S2' v2 => ho _ _ _ _ _ _ _ _ _ _ _ _ e3 S2' (t2.mono v1) v2 fun Z s3 ρ3 t3 S3 v3 =>
  wp_truth S3 e2 v3 fun s4 k4 => k _ _ (((t1.trans t2).trans t3).trans k4.stp) (S3.kept k4))) hm
theorem sxn_if {c : Expr} {a b : List Stmt} {pos : Pos} {t : TF} {f g : SF} (hc : SBn N W Φ c t) (ha : SX W Φ (execs a Φ.env) f) (hb : SX W Φ (execs b Φ.env) g) : SXn N W Φ (exec (.If c a b pos) Φ.env) (ifF t f g) := fun loc H r loc' H' ρ s Q E hN hf S k => by
 unfold ifF at hf
 refine obp2 hf fun x H1 e1 hf => ?_
 refine wpAny_If (hc _ _ _ _ _ _ _ _ hN e1 S fun s1 ρ1 t1 S1 => ?_)
 cases x with
 | true => exact ha _ _ _ _ _ _ _ _ _ hf S1 fun X s2 ρ2 t2 S2' v2 => k _ _ _ (t1.trans t2) S2' v2
 | false => exact hb _ _ _ _ _ _ _ _ _ hf S1 fun X s2 ρ2 t2 S2' v2 => k _ _ _ (t1.trans t2) S2' v2
theorem sxn_cons {st : Stmt} {rest : List Stmt} {f g : SF} (hs : SXn N W Φ (exec st Φ.env) f) (hr : SXn N W Φ (execs rest Φ.env) g) : SXn N W Φ (execs (st :: rest) Φ.env) (seqF f g) := fun loc H r loc' H' ρ s Q E hN hf S k =>
 obp3 hf fun a l1 H1 e1 hf => wpAny_execs_cons (wpAny_with_toks (n := N) hN (hs _ _ _ _ _ _ _ _ _ hN e1 S fun X s1 ρ1 t1 S1 r1 hN1 => r1.seq hf (fun hf => hr _ _ _ _ _ _ _ _ _ hN1 hf S1 fun X s2 ρ2 t2 S2' r2 => k _ _ _ (t1.trans t2) S2' r2) fun hf => k.ofS hf _ _ _ t1 S1 r1))
noncomputable def SEp (W : Wd) (Φ : Fx) (e : Expr) (f : EF) : Prop := ∀ loc H v H' ρ s (Q : Value → Shared → Prop) (E : Value → Shared → Prop), f loc H = some (v, H') → SI W Φ ρ loc H s →
 (∀ X s' ρ', 1 ≤ s'.toks → Stp Φ ρ ρ' s s' → SI W Φ ρ' loc H' s' → VR (Φ.P ρ' s'.heap) ρ' v X → Q X s') → wpAny W.M Φ.A (eval e Φ.env) Q E s
noncomputable def SXp (W : Wd) (Φ : Fx) (t : Sem Flow) (f : SF) : Prop := ∀ loc H r loc' H' ρ s (Q : Flow → Shared → Prop) (E : Value → Shared → Prop), f loc H = some (r, loc', H') → SI W Φ ρ loc H s →
 (∀ X s' ρ', 1 ≤ s'.toks → Stp Φ ρ ρ' s s' → SI W Φ ρ' loc' H' s' → FR (Φ.P ρ' s'.heap) ρ' r X → Q X s') → wpAny W.M Φ.A t Q E s
theorem sep_meth {x : Str} {k0 : Nat} {q0 : Pos} {name : Str} {apos pos : Pos} {args : List Expr} {g : LF} {fv : Value} {D : List AO → V → Bool} {F} {n : Nat} {pl : Sem Bool} (O : Φ.Ok W) (hn : n < Φ.lv) (hg : SGm W name fv D) (hk : KeepOk W fv) (ha : SL W Φ pos args g) (hp : Plain Φ.env pos args) (hc : CallOk W n fv F)
  (he : eval (.Call (.Attribute (.Constant (.str x) k0 q0) name apos) args [] pos) Φ.env = (do
   let ov ← eval (.Constant (.str x) k0 q0) Φ.env
   standAt apos.atName
   let (f, first) ← holding [ov] (getMethod ov name pl)
   callWith pos f first (backTo pos (starEach args Φ.env)) [])) : SEp W Φ (.Call (.Attribute (.Constant (.str x) k0 q0) name apos) args [] pos) (methF (fun _ H => some (.str x, H)) D g F) := fun loc H v H' ρ s Q E hf S k => by
 unfold methF at hf
 refine obp2 hf fun u H1 e1 hf => ?_
 cases e1
 dsimp only at hf
 split at hf
 ·rename_i hD
  refine obp2 hf fun us H2 e2 e3 => ?_
  refine MethodCall_ (wpAny_Constant_str ?_) he
  refine wpAny_with_toks (n := 1) (Nat.succ_le_succ (Nat.zero_le s.toks)) ?_
  refine hg Φ O _ _ _ _ _ _ _ _ _ hD (S.kept (Kp.toks (tk := s.toks + 1))) (.str x s.toks) fun h1 => ?_
  refine wpAny_with_toks (n := 1) h1 ?_
  exact wp_args O hk ha hp e2 (S.kept (Kp.toks (tk := s.toks + 1))) fun Xs s2 ρ2 t2 S2 v2 => hc Φ O hn _ _ _ _ _ _ _ _ _ _ e3 S2 (.cons (.str _ _) v2) fun Y s3 ρ3 t3 S3 v3 h3 => k _ _ _ h3 (((Kp.toks (tk := s.toks + 1)).stp.trans t2).trans t3) S3 v3
 ·cases hf
theorem sxp_assign (O : Φ.Ok W) (i : Nat) {x : Str} {k : Option Addr} {p pos : Pos} {e : Expr} {f : EF} (hn : Φ.names[i]? = some (x, k)) (he : SEp W Φ e f) (hk : k ≠ none → Φ.env.kindOf x = some .cell)
  (hs : swapsWith e (some (.Name x p)) pos.line Φ.env = pure false) : SXp W Φ (exec (.Assign [.Name x p] e pos) Φ.env) (setF i f) := fun loc H r loc' H' ρ s Q E hf S kk => by
 unfold setF at hf
 refine omp2 hf fun v H1 e1 hf => ?_
 cases hf
 exact wpAny_Assign_Name (he _ _ _ _ _ _ _ _ e1 S fun X s1 ρ1 h1 t1 S1 v1 => wpAny_with_toks (n := 1) h1 (wp_store O hn S1 v1 hk fun s2 t2 S2' h2 => kk _ _ _ h2 (t1.trans t2) S2' trivial)) hs
theorem sx_consP {st : Stmt} {rest : List Stmt} {f g : SF} (hs : SXp W Φ (exec st Φ.env) f) (hr : SXn 1 W Φ (execs rest Φ.env) g) : SX W Φ (execs (st :: rest) Φ.env) (seqF f g) := fun loc H r loc' H' ρ s Q E hf S k =>
 obp3 hf fun a l1 H1 e1 hf => wpAny_execs_cons (hs _ _ _ _ _ _ _ _ _ e1 S fun X s1 ρ1 h1 t1 S1 r1 => r1.seq hf (fun hf => hr _ _ _ _ _ _ _ _ _ h1 hf S1 fun X s2 ρ2 t2 S2' r2 => k _ _ _ (t1.trans t2) S2' r2) fun hf => k.ofS hf _ _ _ t1 S1 r1)
end
noncomputable def P196 : { B : SF // ∀ w p loose mean mg mb, FnOkC (Wc w p loose mean mg mb) 2 (.ref 196) (bodyF n196 (bindP ["expected", "actual"]) B) } := by
 refine ⟨?B, fun w p loose mean mg mb => fn_okC (fo := ?fo) (fd := ?fd) (body := ?body) ?ho ?hd ?hb ?hcl ?hgl ?hbi ?hcd ?hco ?hgen ?hk ?hbind ?hbody⟩
 case ho => exact rfl
 case hd => exact rfl
 case hb => exact rfl
 case hcl => rfl
 case hgl => rfl
 case hbi => rfl
 case hcd => rfl
 case hco => rfl
 case hgen => rfl
 case hk => decide
 case hbind => exact bnd2 (fun X Y => rfl) (by decide) (by decide)
 case hbody =>
  intro A g L base fr O Fo
  refine' sx_cons (sx_assign O 2 rfl (se_list_ref sl_nil) (fun h => absurd rfl h) (by rfl)) (sx_cons (sx_while (sb_valA (C := 178) (n := 0) O (by show 0 + 1 < 2; omega) f145.call (by rfl) (by rfl) (by rfl) (se_name O 0 rfl rfl)) (sx_cons (sx_assign O 3 rfl ?m1 (fun h => absurd rfl h) (by rfl)) (sx_cons ?tr sx_nil)) 100) (sx_cons (sx_return (se_tuple (sl_cons (se_name O 2 rfl rfl) (sl_cons (se_name O 1 rfl rfl) sl_nil)))) sx_nil))
  case m1 =>
   refine' se_meth (n := 1) O (Nat.lt_succ_self 1) (se_name O 0 rfl rfl) (sg178 (f := 138) ?g1 ?g2) (.ref ?g3) sl_nil .nil f138s.call ?g4
   case g1 => rfl
   case g2 => rfl
   case g3 => rfl
   case g4 => rfl
  case tr =>
   refine' sx_try_except (X := "ValueError") (Ts := "ValueError") O Fo (by decide) ?t1 ?t2 ?t3 (by rfl) bootValueError (by decide) (by rfl) (by rfl) (rx_cons ?bdy rx_nil) ?hand
   case t1 => rw [isSubtype_type]; kernel_rfl
   case t2 => rw [isSubtype_type]; kernel_rfl
   case t3 => rw [isSubtype_type]; kernel_rfl
   case bdy =>
    refine' rx_remove O 1 3 rfl rfl rfl rfl ?g1 ?g2 (by rfl) (by rfl)
    case g1 => rfl
    case g2 => rfl
   case hand =>
    intro e
    refine' sx_cons (sx_expr ?h1 (by rfl) (by rfl)) sx_nil
    case h1 =>
     refine' se_appendA O (A.mark (some (.ref e))) 2 rfl rfl (se_nameA O (A.mark (some (.ref e))) 3 rfl rfl) ?g1 ?g2
     case g1 => rfl
     case g2 => rfl
noncomputable def F196 : List V → List AO → Option (V × List AO) := bodyF n196 (bindP ["expected", "actual"]) P196.1
section
variable {w : World} {p : Program} {loose : List Str} {mean : ExcName → Option Value} {mg mb : Str → Option Value}
theorem k196 : FnOkC (Wc w p loose mean mg mb) 2 (.ref 196) F196 := P196.2 _ _ _ _ _ _
end
end
end
section
section
noncomputable abbrev n254 : List (Str × Option Nat) := [("signs", some 0), ("step", some 1), ("head", none), ("pick", none), ("words", some 2), ("text", some 3), ("folded", none), ("halves", none), ("by_step", none), ("hooks", none), ("bag", none), ("size", none), ("great", none), ("strange", none), ("told", none), ("answer", none), ("due", none)]
noncomputable def P254 : { B : SF // ∀ w p loose mean mg mb, FnOkC (Wc w p loose mean mg mb) 6 (.ref 254) (bodyF n254 (bindP ["signs", "step", "head", "pick"]) B) } := by
 refine ⟨?B, fun w p loose mean mg mb => fn_okC (fo := ?fo) (fd := ?fd) (body := ?body) ?ho ?hd ?hb ?hcl ?hgl ?hbi ?hcd ?hco ?hgen ?hk ?hbind ?hbody⟩
 case ho => exact rfl
 case hd => exact rfl
 case hb => exact rfl
 case hcl => rfl
 case hgl => rfl
 case hbi => rfl
 case hcd => rfl
 case hco => rfl
 case hgen => rfl
 case hk => decide
 case hbind => exact bndG (lnS fun _ => lnS fun _ => lnS fun _ => lnS fun _ => ln0 rfl) (by decide)
 case hbody =>
  intro A g L base fr O Fo
  refine' sx_cons (sx_assign O 4 rfl (se_comp (tgt := fun _ => True) O true ?w1) (fun _ => by rfl) (by rfl)) (sx_consP (sxp_assign O 5 rfl ?tx (fun _ => by rfl) (by rfl)) (sxn_cons (SX.n (sx_assign_comp (tgt := fun _ => True) O 6 true rfl ?w3 (by rfl))) (sxn_cons (sxn_if (sbn_cmp (se_name O 6 rfl rfl) ?fw (op_ne O)) (sx_cons (sx_return se_bool) sx_nil) sx_nil) (SX.n (sx_cons (sx_assign_comp (tgt := fun _ => True) O 7 true rfl ?w5 (by rfl)) (sx_cons (sx_assign O 8 rfl ?bs (fun h => absurd rfl h) (by rfl)) (sx_cons (sx_if (sb_cmp ?jn (se_name O 5 rfl rfl) (op_ne O)) (sx_cons (sx_return se_bool) sx_nil) sx_nil) (sx_cons (sx_assign O 9 rfl ?hok (fun h => absurd rfl h) (by rfl)) (sx_cons (sx_if (sb_cmp (se_name O 9 rfl rfl) (se_call (n := 1) O (by show 1 < 6; omega) (sn_global O (by rfl) (by rfl) (by rfl)) (.ref (by rfl)) (sl_cons (se_name O 0 rfl rfl) sl_nil) k234.frame.call (.cons rfl rfl) rfl) (op_ne O)) (sx_cons (sx_return se_bool) sx_nil) sx_nil) (sx_cons (sx_assign O 10 rfl ?ba (fun h => absurd rfl h) (by rfl)) (sx_cons (sx_for (tgt := fun _ => True) O trivial (sq_val (se_name O 9 rfl rfl)) (sa_name O 11 rfl (fun h => absurd rfl h)) (sx_cons (sx_expr ?pu (by rfl) (by rfl)) sx_nil) sx_nil (fun _ => rfl)) (sx_cons (sx_assign_comp (tgt := fun _ => True) O 12 true rfl ?w12 (by rfl)) (sx_cons (sx_assign_comp (tgt := fun _ => True) O 13 true rfl ?w13 (by rfl)) (sx_cons (sx_assign O 14 rfl (se_bin (se_bin (se_slice (se_name O 13 rfl rfl) sp_none (sp_some se_int) sp_none (fun _ _ => ⟨_, rfl⟩)) (se_comp (tgt := fun _ => True) O true ?w14) op_add) (se_slice (se_name O 13 rfl rfl) (sp_some se_int) sp_none sp_none (fun _ _ => ⟨_, rfl⟩)) op_addR) (fun h => absurd rfl h) (by rfl)) (sx_cons (sx_assign O 15 rfl ?an (fun h => absurd rfl h) (by rfl)) (sx_cons (sx_if (sb_or (sb_cmp (se_name O 15 rfl rfl) (se_tuple (sl_cons (se_comp (tgt := fun _ => True) O true ?w16) (sl_cons (se_name O 13 rfl rfl) sl_nil))) (op_ne O)) (sb_cmp (se_sub (se_name O 15 rfl rfl) se_int (op_idx (fun _ _ => by with_unfolding_all rfl))) (se_name O 14 rfl rfl) op_isnt)) (sx_cons (sx_return se_bool) sx_nil) sx_nil) (sx_cons (sx_if (sb_cmp ?pc se_int (op_ne O)) (sx_cons (sx_return se_bool) sx_nil) sx_nil) (sx_cons (sx_assign_comp (tgt := fun _ => True) O 16 true rfl ?w18 (by rfl)) (sx_cons (sx_return (se_cmp ?rs (se_tuple (sl_cons ?jd (sl_cons (se_call (n := 0) O (by show 0 < 6; omega) (sn_builtin O (by rfl) boot_len (by decide) (by rfl) (by rfl)) (.bi _) (sl_cons (se_name O 12 rfl rfl) sl_nil) c_len (.cons rfl rfl) rfl) sl_nil))) (op_eq O))) sx_nil)))))))))))))))))))
  case w1 =>
   exact ct1 (ys := ["sign"]) (cs := []) (cb_of (by rfl) (by rfl) (by rfl) (by rfl) (by rfl) (fun i h => by cases h) (by rfl)) trivial (sq_val (se_name O 0 rfl rfl)) (fun _ => rfl) (fun g' C OΨ => sa_name OΨ 0 rfl (fun h => absurd rfl h)) (fun _ _ _ => sc_nil) (fun g' C OΨ => se_ite (sb_cmp (se_name OΨ 0 rfl rfl) se_str (op_eq OΨ)) se_str se_str) (keeps_name (by decide))
  case tx =>
   with_reducible refine' sep_meth (n := 0) O ?q1 ?q3 ?q4 ?q5 ?q6 ?q7 ?g4
   case q1 => show 0 < 6; omega
   case q3 => exact sg_join
   case q4 => exact (.bi _)
   case q5 =>
    refine' (sl_cons (se_comp (tgt := fun _ => True) O true ?w2) sl_nil)
    case w2 => exact ct1 (ys := ["word"]) (cs := []) (cb_of (by rfl) (by rfl) (by rfl) (by rfl) (by rfl) (fun i h => by cases h) (by rfl)) trivial (sq_val (se_name O 4 rfl rfl)) (fun _ => rfl) (fun g' C OΨ => sa_name OΨ 0 rfl (fun h => absurd rfl h)) (fun _ _ _ => sc_nil) (fun g' C OΨ => se_bin se_str (se_name OΨ 0 rfl rfl) op_add) (keeps_name (by decide))
   case q6 => exact (.cons rfl rfl)
   case q7 => exact c_join
   case g4 => rfl
  case w3 =>
   refine' ct1 (ys := ["mark"]) (cs := [4]) (cb_of (by rfl) (by rfl) (by rfl) (by rfl) (by rfl) (fun i h => by simp at h; subst h <;> exact ⟨_, _, rfl, by rfl, by rfl⟩) (by rfl)) trivial (sq_val se_str) (fun _ => rfl) (fun g' C OΨ => sa_name OΨ 0 rfl (fun h => absurd rfl h)) (fun _ _ _ => sc_nil) (fun g' C OΨ => (se_call (n := 5) OΨ (by show 5 < 6; omega) (sn_global OΨ (by rfl) (by rfl) (by rfl)) (.ref (by rfl)) (sl_cons (se_comp (tgt := fun _ => True) OΨ true ?_) (sl_cons se_int (sl_cons se_int (sl_cons (se_name OΨ 0 rfl rfl) sl_nil)))) k217.frame.call (.cons rfl rfl) rfl)) (keeps_name (by decide))
   exact ct1 (ys := ["word"]) (cs := []) (cb_of (by rfl) (by rfl) (by rfl) (by rfl) (by rfl) (fun i h => by cases h) (by rfl)) trivial (sq_val (se_name OΨ 1 rfl rfl)) (fun _ => rfl) (fun g' C OΞ => sa_name OΞ 0 rfl (fun h => absurd rfl h)) (fun _ _ _ => sc_nil) (fun g' C OΞ => se_tuple (sl_cons se_str (sl_cons (se_name OΞ 0 rfl rfl) sl_nil))) (keeps_name (by decide))
  case fw =>
   refine' se_fold (i := 5) O (cb_of (by rfl) (by rfl) (by rfl) (by rfl) (by rfl) (fun i h => by simp at h; subst h <;> exact ⟨_, _, rfl, by rfl, by rfl⟩) (by rfl)) (fun _ => rfl) rfl rfl ?inn
   case inn =>
    intro N g' C OΨ
    refine' se_inner (tgt := fun _ => True) OΨ ?pa (ct1n (ys := ["row"]) (cb_of (by rfl) (by rfl) (by rfl) (by rfl) (by rfl) (fun i h => by cases h) (by rfl)) trivial (fun _ => rfl) (fun g' C OΞ => sa_name OΞ 0 rfl (fun h => absurd rfl h)) (fun g' C OΞ => sc_one (sb_cmp (se_name OΞ 0 rfl rfl) se_str (op_ne OΞ))) (fun g' C OΞ => (se_name OΞ 0 rfl rfl).n) (keeps_name (by decide)))
    case pa =>
     refine' parts_at OΨ ?k0 rfl rfl rfl rfl ?k1 ?k2 ?k3 ?k4 (.cons rfl rfl) ?k5
     case k0 => show 0 < 6; omega
     case k1 => rfl
     case k2 => rfl
     case k3 => rfl
     case k4 => rfl
     case k5 => rfl
  case w5 =>
   exact ct2 (tgt1 := fun _ => True) (ys := ["word", "chunk"]) (cs := []) (cb_of (by rfl) (by rfl) (by rfl) (by rfl) (by rfl) (fun i h => by cases h) (by rfl)) trivial (sq_val (se_name O 4 rfl rfl)) (fun _ => rfl) (fun g' C OΨ => sa_name OΨ 0 rfl (fun h => absurd rfl h)) (fun _ _ _ => sc_nil) trivial (fun g' C OΨ => (sq_val (se_list (sl_cons (se_tuple (sl_cons se_str (sl_cons se_str sl_nil))) (sl_cons (se_tuple (sl_cons se_str (sl_cons (se_name OΨ 0 rfl rfl) sl_nil))) sl_nil))))) (fun _ _ _ _ => rfl) (fun g' C OΨ => sa_name OΨ 1 rfl (fun h => absurd rfl h)) (fun _ _ _ => sc_nil) (fun g' C OΨ => (se_name OΨ 1 rfl rfl)) (keeps_name (by decide)) (keeps_name (by decide))
  case bs =>
   exact (se_call (n := 5) O (by show 5 < 6; omega) (sn_global O (by rfl) (by rfl) (by rfl)) (.ref (by rfl)) (sl_cons (se_name O 7 rfl rfl) (sl_cons (se_bin se_int (se_name O 2 rfl rfl) op_mul) (sl_cons (se_bin (se_bin se_int (se_name O 1 rfl rfl) op_mul) (se_bin (se_name O 3 rfl rfl) se_int op_fmod) op_add) (sl_cons se_str sl_nil)))) k217.frame.call (.cons rfl rfl) rfl)
  case jn =>
   with_reducible refine' se_meth (n := 0) O ?q1 ?q2 ?q3 ?q4 ?q5 ?q6 ?q7 ?g4
   case q1 => show 0 < 6; omega
   case q2 => exact se_str
   case q3 => exact sg_join
   case q4 => exact (.bi _)
   case q5 => exact (sl_cons (se_name O 8 rfl rfl) sl_nil)
   case q6 => exact (.cons rfl rfl)
   case q7 => exact c_join
   case g4 => rfl
  case hok =>
   exact (se_callC (n := 2) O Fo (by show 2 < 6; omega) (sn_global O (by rfl) (by rfl) (by rfl)) (.ref (by rfl)) (sl_cons (se_call (n := 1) O (by show 1 < 6; omega) (sn_global O (by rfl) (by rfl) (by rfl)) (.ref (by rfl)) (sl_cons (se_sub (se_name O 6 rfl rfl) se_int (op_idx (fun _ _ => by with_unfolding_all rfl))) (sl_cons se_str sl_nil)) k224.frame.call (.cons rfl rfl) rfl) (sl_cons (se_call (n := 1) O (by show 1 < 6; omega) (sn_global O (by rfl) (by rfl) (by rfl)) (.ref (by rfl)) (sl_cons (se_sub (se_name O 6 rfl rfl) se_int (op_idx (fun _ _ => by with_unfolding_all rfl))) (sl_cons se_str sl_nil)) k224.frame.call (.cons rfl rfl) rfl) sl_nil)) k244.frz (.cons rfl rfl) rfl)
  case ba =>
   exact (se_call (n := 1) O (by show 1 < 6; omega) (sn_global O (by rfl) (by rfl) (by rfl)) (.ref (by rfl)) sl_nil c178.call .nil rfl)
  case pu =>
   refine' se_methStar (n := 1) O (by show 1 < 6; omega) (se_name O 10 rfl rfl) (sgb_sub (C := 178) (f := 122) ?h1 ?h2 ?h3 ?h4 ?h5 ?h6 ?h7 ?h8 ?h9) ?g3 (se_call (n := 0) O (by show 0 < 6; omega) (sn_global O (by rfl) (by rfl) (by rfl)) (.ref (by rfl)) (sl_cons (se_name O 11 rfl rfl) sl_nil) k210.call (.cons rfl rfl) rfl) k122 ?g4 ?g5
   case h1 => rfl
   case h2 => rfl
   case h3 => rfl
   case h4 => rfl
   case h5 => rfl
   case h6 => rfl
   case h7 => rfl
   case h8 => rfl
   case h9 => rfl
   case g3 => rfl
   case g4 => rfl
   case g5 => rfl
  case w12 =>
   exact ct2 (tgt1 := fun _ => True) (ys := ["column", "size"]) (cs := [1]) (cb_of (by rfl) (by rfl) (by rfl) (by rfl) (by rfl) (fun i h => by simp at h; subst h <;> exact ⟨_, _, rfl, by rfl, by rfl⟩) (by rfl)) trivial (sq_val (se_call (n := 1) O (by show 1 < 6; omega) (sn_global O (by rfl) (by rfl) (by rfl)) (.ref (by rfl)) (sl_cons (se_name O 8 rfl rfl) (sl_cons (se_name O 2 rfl rfl) (sl_cons (se_name O 1 rfl rfl) sl_nil))) k229.frame.call (.cons rfl rfl) rfl)) (fun _ => rfl) (fun g' C OΨ => sa_name OΨ 0 rfl (fun h => absurd rfl h)) (fun _ _ _ => sc_nil) trivial (fun g' C OΨ => (sq_val (se_call (n := 1) OΨ (by show 1 < 6; omega) (sn_global OΨ (by rfl) (by rfl) (by rfl)) (.ref (by rfl)) (sl_cons (se_name OΨ 0 rfl rfl) sl_nil) k234.frame.call (.cons rfl rfl) rfl))) (fun _ _ _ _ => rfl) (fun g' C OΨ => sa_name OΨ 1 rfl (fun h => absurd rfl h)) (fun _ _ _ => sc_nil) (fun g' C OΨ => (se_bin (se_name OΨ 2 rfl rfl) (se_name OΨ 1 rfl rfl) op_mul)) (keeps_name (by decide)) (keeps_name (by decide))
  case w13 =>
   exact ct1 (ys := ["size"]) (cs := []) (cb_of (by rfl) (by rfl) (by rfl) (by rfl) (by rfl) (fun i h => by cases h) (by rfl)) trivial (sq_val (se_list (sl_cons se_int (sl_cons se_int (sl_cons se_int sl_nil))))) (fun _ => rfl) (fun g' C OΨ => sa_name OΨ 0 rfl (fun h => absurd rfl h)) (fun _ _ _ => sc_nil) (fun g' C OΨ => (se_call (n := 0) OΨ (by show 0 < 6; omega) (sn_global OΨ (by rfl) (by rfl) (by rfl)) (.ref (by rfl)) (sl_cons (se_name OΨ 0 rfl rfl) sl_nil) k210.call (.cons rfl rfl) rfl)) (keeps_name (by decide))
  case w14 =>
   exact ct1 (ys := ["size"]) (cs := []) (cb_of (by rfl) (by rfl) (by rfl) (by rfl) (by rfl) (fun i h => by cases h) (by rfl)) trivial (sq_val (se_name O 12 rfl rfl)) (fun _ => rfl) (fun g' C OΨ => sa_name OΨ 0 rfl (fun h => absurd rfl h)) (fun _ _ _ => sc_nil) (fun g' C OΨ => (se_call (n := 0) OΨ (by show 0 < 6; omega) (sn_global OΨ (by rfl) (by rfl) (by rfl)) (.ref (by rfl)) (sl_cons (se_name OΨ 0 rfl rfl) sl_nil) k210.call (.cons rfl rfl) rfl)) (keeps_name (by decide))
  case an =>
   exact (se_callC (n := 2) O Fo (by show 2 < 6; omega) (sn_global O (by rfl) (by rfl) (by rfl)) (.ref (by rfl)) (sl_cons (se_name O 10 rfl rfl) (sl_cons (se_name O 14 rfl rfl) sl_nil)) k196.frz (.cons rfl rfl) rfl)
  case w16 =>
   exact ct1 (ys := ["size"]) (cs := [1]) (cb_of (by rfl) (by rfl) (by rfl) (by rfl) (by rfl) (fun i h => by simp at h; subst h <;> exact ⟨_, _, rfl, by rfl, by rfl⟩) (by rfl)) trivial (sq_rev O (sn_builtin O (by rfl) boot_reversed (by decide) (by rfl) (by rfl)) (sl_cons (se_name O 9 rfl rfl) sl_nil) (.cons rfl rfl) rfl) (fun _ => rfl) (fun g' C OΨ => sa_name OΨ 0 rfl (fun h => absurd rfl h)) (fun g' C OΨ => sc_one (sb_cmp (se_bin (se_name OΨ 0 rfl rfl) (se_name OΨ 1 rfl rfl) op_fmod) se_int (op_ne OΨ))) (fun g' C OΨ => (se_call (n := 0) OΨ (by show 0 < 6; omega) (sn_global OΨ (by rfl) (by rfl) (by rfl)) (.ref (by rfl)) (sl_cons (se_name OΨ 0 rfl rfl) sl_nil) k210.call (.cons rfl rfl) rfl)) (keeps_name (by decide))
  case pc =>
   refine' se_meth (n := 0) O (by show 0 < 6; omega) (se_name O 10 rfl rfl) (sg178 (f := 175) ?g1 ?g2) (.ref ?g3) sl_nil .nil f175.call ?g4
   case g1 => rfl
   case g2 => rfl
   case g3 => rfl
   case g4 => rfl
  case w18 =>
   exact ct1 (ys := ["k"]) (cs := [0, 1]) (cb_of (by rfl) (by rfl) (by rfl) (by rfl) (by rfl) (fun i h => by simp at h; rcases h with rfl | rfl <;> exact ⟨_, _, rfl, by rfl, by rfl⟩) (by rfl)) trivial (sq_range O (sn_builtin O (by rfl) boot_range (by decide) (by rfl) (by rfl)) (sl_cons (se_call (n := 0) O (by show 0 < 6; omega) (sn_builtin O (by rfl) boot_len (by decide) (by rfl) (by rfl)) (.bi _) (sl_cons (se_name O 0 rfl rfl) sl_nil) c_len (.cons rfl rfl) rfl) sl_nil) (.cons rfl rfl) rfl) (fun _ => rfl) (fun g' C OΨ => sa_name OΨ 0 rfl (fun h => absurd rfl h)) (fun _ _ _ => sc_nil) (fun g' C OΨ => se_ite (sb_cmp (se_bin (se_name OΨ 0 rfl rfl) (se_name OΨ 2 rfl rfl) op_fdiv) (se_meth (n := 0) (pl := pure false) OΨ (by show 0 < 6; omega) (se_slice (se_name OΨ 1 rfl rfl) (sp_some (se_bin (se_name OΨ 0 rfl rfl) (se_name OΨ 2 rfl rfl) op_fmod)) sp_none (sp_some (se_name OΨ 2 rfl rfl)) (fun _ _ => ⟨_, rfl⟩)) (sg_list PySem.F.slot_list_count PySem.F.type_list_count) (.bi _) (sl_cons se_str sl_nil) (.cons rfl rfl) c_count (by rfl)) op_lt) se_str se_str) (keeps_name (by decide))
  case rs =>
   exact (se_call (n := 2) O (by show 2 < 6; omega) (sn_global O (by rfl) (by rfl) (by rfl)) (.ref (by rfl)) (sl_cons (se_name O 0 rfl rfl) (sl_cons (se_name O 1 rfl rfl) (sl_cons (se_name O 3 rfl rfl) sl_nil))) k249.frame.call (.cons rfl rfl) rfl)
  case jd =>
   with_reducible refine' se_meth (n := 0) O ?q1 ?q2 ?q3 ?q4 ?q5 ?q6 ?q7 ?g4
   case q1 => show 0 < 6; omega
   case q2 => exact se_str
   case q3 => exact sg_join
   case q4 => exact (.bi _)
   case q5 => exact (sl_cons (se_name O 16 rfl rfl) sl_nil)
   case q6 => exact (.cons rfl rfl)
   case q7 => exact c_join
   case g4 => rfl
noncomputable def F254 : List V → List AO → Option (V × List AO) := bodyF n254 (bindP ["signs", "step", "head", "pick"]) P254.1
section
variable {w : World} {p : Program} {loose : List Str} {mean : ExcName → Option Value} {mg mb : Str → Option Value}
theorem k254 : FnOkC (Wc w p loose mean mg mb) 6 (.ref 254) F254 := P254.2 _ _ _ _ _ _
end
end
end
section
section
noncomputable abbrev n259 : List (Str × Option Nat) := [("script", some 0), ("cells", none), ("extra", none), ("step", none)]
noncomputable def P259 : { B : SF // ∃ (fd : FuncData) (st0 : Stmt) (body : List Stmt), (∃ fo : Obj, (∀ q, (Mine.pre.heap_1_1 q).lookup 259 = some fo) ∧ fo.data = .func fd) ∧ fd.body = .stmts (st0 :: body) ∧ ∀ w p loose mean mg mb A g L base fr c f,
  (fx { fd with code := c } f n259 7 A g L base fr).Ok (Wc w p loose mean mg mb) → FrOk (fx { fd with code := c } f n259 7 A g L base fr) → SX (Wc w p loose mean mg mb) (fx { fd with code := c } f n259 7 A g L base fr) (execs body (callEnvC { fd with code := c } L f)) B } := by
 refine ⟨?B, ?fd, ?st, ?bd, ⟨?fo, fun q => ?h1, ?h2⟩, ?h3, fun w p loose mean mg mb A g L base fr c f O Fo => ?h4⟩
 case h1 => exact rfl
 case h2 => exact rfl
 case h3 => exact rfl
 case h4 =>
   refine' sx_cons (sx_assign_comp (tgt := tgtT) O 1 true rfl ?c1 (by rfl)) (sx_cons (sx_assign O 2 rfl ?s2 (fun h => absurd rfl h) (by rfl)) (sx_cons (sx_assign O 3 rfl (se_bin se_int (se_bin (se_name O 2 rfl rfl) se_int op_fmod) op_add) (fun h => absurd rfl h) (by rfl)) (sx_cons (sx_return ?rt) sx_nil)))
   case c1 => exact ct1 (tgt := tgtT) (ys := ["k", "base"]) (cs := [0]) (cb_of (by rfl) (by rfl) (by rfl) (by rfl) (by rfl) (fun i h => by simp at h; subst h <;> exact ⟨_, _, rfl, by rfl, by rfl⟩) (by rfl)) ⟨_, _, _, rfl⟩ (sq_enum O (sn_builtin O (by rfl) boot_enum (by decide) (by rfl) (by rfl)) (sl_cons (se_list (sl_cons se_int (sl_cons se_int (sl_cons se_int (sl_cons se_int (sl_cons se_int (sl_cons se_int (sl_cons se_int (sl_cons se_int sl_nil))))))))) sl_nil) (.cons rfl rfl) rfl) (fun _ => rfl) (fun g' C OΨ => sa_tup2 OΨ (sa_name OΨ 0 rfl (fun h => absurd rfl h)) (sa_name OΨ 1 rfl (fun h => absurd rfl h))) (fun _ _ _ => sc_nil) (fun g' C OΨ => (se_bin (se_name OΨ 1 rfl rfl) (se_call (n := 0) OΨ (by show 0 < 7; omega) (sn_builtin OΨ (by rfl) boot_sum (by decide) (by rfl) (by rfl)) (.bi _) (sl_cons (se_slice (se_name OΨ 2 rfl rfl) (sp_some (se_name OΨ 0 rfl rfl)) sp_none (sp_some se_int) (fun _ _ => ⟨_, rfl⟩)) sl_nil) c_sum (.cons rfl rfl) rfl) op_add)) (keeps_tup2 (keeps_name (by decide)) (keeps_name (by decide)))
   case s2 =>
    refine' (se_call (n := 0) O (by show 0 < 7; omega) (sn_builtin O (by rfl) boot_sum (by decide) (by rfl) (by rfl)) (.bi _) (sl_cons (se_comp (tgt := fun _ => True) O true ?c) sl_nil) c_sum (.cons rfl rfl) rfl)
    case c => exact ct1 (ys := ["cell"]) (cs := []) (cb_of (by rfl) (by rfl) (by rfl) (by rfl) (by rfl) (fun i h => by cases h) (by rfl)) trivial (sq_val (se_name O 1 rfl rfl)) (fun _ => rfl) (fun g' C OΨ => sa_name OΨ 0 rfl (fun h => absurd rfl h)) (fun _ _ _ => sc_nil) (fun g' C OΨ => (se_bin (se_name OΨ 0 rfl rfl) se_int op_fdiv)) (keeps_name (by decide))
   case rt =>
    refine' (se_callC (n := 6) O Fo (by show 6 < 7; omega) (sn_global O (by rfl) (by rfl) (by rfl)) (.ref (by rfl)) (sl_cons (se_comp (tgt := fun _ => True) O true ?c) (sl_cons (se_name O 3 rfl rfl) (sl_cons (se_bin (se_bin (se_name O 2 rfl rfl) se_int op_fdiv) (se_bin (se_name O 3 rfl rfl) se_int op_add) op_fmod) (sl_cons (se_bin (se_bin (se_name O 2 rfl rfl) se_int op_fdiv) se_int op_fmod) sl_nil)))) k254 (.cons rfl rfl) rfl)
    case c => exact ct1 (ys := ["cell"]) (cs := []) (cb_of (by rfl) (by rfl) (by rfl) (by rfl) (by rfl) (fun i h => by cases h) (by rfl)) trivial (sq_val (se_name O 1 rfl rfl)) (fun _ => rfl) (fun g' C OΨ => sa_name OΨ 0 rfl (fun h => absurd rfl h)) (fun _ _ _ => sc_nil) (fun g' C OΨ => (se_sub se_str (se_bin (se_name OΨ 0 rfl rfl) se_int op_fmod) (op_idx (fun _ _ => by with_unfolding_all rfl)))) (keeps_name (by decide))
end
end
section
section
theorem cut_inj {c : Nat} : ∀ {a b x y : List Nat}, c ∉ a → c ∉ b → a ++ c :: x = b ++ c :: y → a = b ∧ x = y
 | [], [], x, y, _, _, e => ⟨rfl, (List.cons.inj e).2⟩
 | [], d :: b, x, y, _, h, e => absurd ((List.cons.inj e).1 ▸ List.mem_cons_self ..) h
 | d :: a, [], x, y, h, _, e => absurd ((List.cons.inj e).1 ▸ List.mem_cons_self ..) h
 | d :: a, d' :: b, x, y, h, h', e => by
  obtain ⟨e1, e2⟩ := List.cons.inj e
  obtain ⟨r1, r2⟩ := cut_inj (fun q => h (.tail _ q)) (fun q => h' (.tail _ q)) e2
  exact ⟨by rw [e1, r1], r2⟩
theorem str_ext {a b : Str} (h : a.cps.toList = b.cps.toList) : a = b := by
 cases a; cases b
 simp only [Str.mk.injEq]
 exact Array.toList_inj.mp h
theorem join_cons2 (c : Nat) (p q : Str) (r : List Str) : (Str.join ⟨#[c]⟩ (p :: q :: r)).cps.toList = p.cps.toList ++ c :: (Str.join ⟨#[c]⟩ (q :: r)).cps.toList := by
 show (p ++ ⟨#[c]⟩ ++ Str.join ⟨#[c]⟩ (q :: r)).cps.toList = _
 simp only [PySem.Str.cps_append, Array.toList_append, List.append_assoc]
 rfl
theorem join_inj {c : Nat} : ∀ {a b : List Str}, a ≠ [] → b ≠ [] → (∀ p ∈ a, c ∉ p.cps.toList) → (∀ p ∈ b, c ∉ p.cps.toList) → (Str.join ⟨#[c]⟩ a).cps.toList = (Str.join ⟨#[c]⟩ b).cps.toList → a = b
 | [], _, h, _, _, _, _ => absurd rfl h
 | _, [], _, h, _, _, _ => absurd rfl h
 | [p], [q], _, _, _, _, e => by rw [str_ext (a := p) (b := q) e]
 | [p], q :: q2 :: r, _, _, h, _, e => by
  rw [join_cons2] at e
  exact absurd (show c ∈ p.cps.toList by rw [show p.cps.toList = _ from e]; simp) (h p (.head _))
 | p :: p2 :: r, [q], _, _, _, h, e => by
  rw [join_cons2] at e
  exact absurd (show c ∈ q.cps.toList by rw [← show _ = q.cps.toList from e]; simp) (h q (.head _))
 | p :: p2 :: r, q :: q2 :: r', _, _, h, h', e => by
  rw [join_cons2, join_cons2] at e
  obtain ⟨e1, e2⟩ := cut_inj (h p (.head _)) (h' q (.head _)) e
  rw [str_ext e1, join_inj (a := p2 :: r) (b := q2 :: r') (by simp) (by simp) (fun x hx => h x (.tail _ hx)) (fun x hx => h' x (.tail _ hx)) e2]
theorem split_ne (x y : Str) : Txt.split x y ≠ [] := by
 unfold Txt.split
 split
 ·simp
 ·split
  ·simp
  ·rw [PySem.StrLaws.partsBetween_eq]
   obtain ⟨p, r, e⟩ := PySem.StrLaws.partsFrom_ne x y.length 0 (Builtin.Str.occurrences x y 0 x.length (x.length + 1))
   rw [e]; simp
theorem split_join {c : Nat} {ls : List Str} (h1 : ls ≠ []) (h2 : ∀ p ∈ ls, c ∉ p.cps.toList) : Txt.split (Str.join ⟨#[c]⟩ ls) ⟨#[c]⟩ = ls :=
 join_inj (split_ne _ _) h1 (PySem.StrLaws.split_free _ c) h2 (by rw [PySem.StrLaws.join_split])
end
end
section
section
theorem V.isN_is {v : V} (h : v.isN = true) : v = .none := V.casesOn (motive_1 := fun v => v.isN = true → v = .none) v (fun _ => rfl) (fun _ => nf) (fun _ => nf) (fun _ => nf) (fun _ => nf) (fun _ => nf) (fun _ => nf) (fun _ _ => nf) (fun _ => nf) (fun _ => nf) h
noncomputable def beqV (a : V) : V → Bool := V.rec (motive_1 := fun _ => V → Bool) (motive_2 := fun _ => List V → Bool) V.isN (fun x b => oB b.bool? fun y => x == y) (fun x b => oB b.int? fun y => x == y) (fun x b => oB b.str? fun y => x.cps.toList == y.cps.toList) (fun _ ih b => oB b.tup? ih) (fun _ ih b => oB b.lst? ih) (fun x b => oB b.ref? fun y => x == y) (fun _ _ _ => false) (fun _ _ => false) (fun _ _ => false)
 (fun ys => List.casesOn ys true fun _ _ => false) (fun _ _ ih1 ih2 ys => List.casesOn ys false fun y ys => ih1 y && ih2 ys) a
noncomputable def beqVs (a : List V) : List V → Bool := V.rec_1 (motive_1 := fun _ => V → Bool) (motive_2 := fun _ => List V → Bool) V.isN (fun x b => oB b.bool? fun y => x == y) (fun x b => oB b.int? fun y => x == y) (fun x b => oB b.str? fun y => x.cps.toList == y.cps.toList) (fun _ ih b => oB b.tup? ih) (fun _ ih b => oB b.lst? ih) (fun x b => oB b.ref? fun y => x == y) (fun _ _ _ => false) (fun _ _ => false) (fun _ _ => false)
 (fun ys => List.casesOn ys true fun _ _ => false) (fun _ _ ih1 ih2 ys => List.casesOn ys false fun y ys => ih1 y && ih2 ys) a
theorem beqV_both : (∀ a b : V, beqV a b = true → a = b) ∧ ∀ a b : List V, beqVs a b = true → a = b := by
 have z := fun (m : ∀ C : Prop, ((∀ a b : V, beqV a b = true → a = b) → (∀ a b : List V, beqVs a b = true → a = b) → C) → C) => m _ And.intro
 refine z fun C k => ?_
 have h1 : ∀ (x : Bool) (b : V), beqV (V.bool x) b = true → V.bool x = b := fun x b h => oB_is (o := b.bool?) h fun y e q => (congrArg V.bool (beq_iff_eq.mp q)).trans (V.bool?_is e).symm
 have h2 : ∀ (x : Int) (b : V), beqV (V.int x) b = true → V.int x = b := fun x b h => oB_is (o := b.int?) h fun y e q => (congrArg V.int (beq_iff_eq.mp q)).trans (V.int?_is e).symm
 have h3 : ∀ (x : Str) (b : V), beqV (V.str x) b = true → V.str x = b := fun x b h => oB_is (o := b.str?) h fun y e q => (congrArg V.str (str_ext (beq_iff_eq.mp q))).trans (V.str?_is e).symm
 have h4 : ∀ (xs : List V), (∀ b, beqVs xs b = true → xs = b) → ∀ b, beqV (V.tup xs) b = true → V.tup xs = b := fun xs ih b h => oB_is (o := b.tup?) (f := beqVs xs) h fun y e q => (congrArg V.tup (ih y q)).trans (V.tup?_is e).symm
 have h5 : ∀ (xs : List V), (∀ b, beqVs xs b = true → xs = b) → ∀ b, beqV (V.lst xs) b = true → V.lst xs = b := fun xs ih b h => oB_is (o := b.lst?) (f := beqVs xs) h fun y e q => (congrArg V.lst (ih y q)).trans (V.lst?_is e).symm
 have h6 : ∀ (x : Nat) (b : V), beqV (V.ref x) b = true → V.ref x = b := fun x b h => oB_is (o := b.ref?) h fun y e q => (congrArg V.ref (beq_iff_eq.mp q)).trans (V.ref?_is e).symm
 have h7 : ∀ b : List V, beqVs [] b = true → [] = b := fun b => List.casesOn (motive := fun b => beqVs [] b = true → [] = b) b (fun _ => rfl) fun _ _ => nf
 have h8 : ∀ (x : V) (xs : List V), (∀ b, beqV x b = true → x = b) → (∀ b, beqVs xs b = true → xs = b) → ∀ b, beqVs (x :: xs) b = true → x :: xs = b := fun x xs i1 i2 b => List.casesOn (motive := fun b => beqVs (x :: xs) b = true → x :: xs = b) b nf fun y ys h => have h := Bool.and_eq_true_iff.mp h; i1 y h.1 ▸ i2 ys h.2 ▸ rfl
 exact k (fun a => V.rec (motive_1 := fun a => ∀ b, beqV a b = true → a = b) (motive_2 := fun a => ∀ b, beqVs a b = true → a = b) (fun _ h => (V.isN_is h).symm) h1 h2 h3 h4 h5 h6 (fun _ _ _ => nf) (fun _ _ => nf) (fun _ _ => nf) h7 h8 a)
  fun a => V.rec_1 (motive_1 := fun a => ∀ b, beqV a b = true → a = b) (motive_2 := fun a => ∀ b, beqVs a b = true → a = b) (fun _ h => (V.isN_is h).symm) h1 h2 h3 h4 h5 h6 (fun _ _ _ => nf) (fun _ _ => nf) (fun _ _ => nf) h7 h8 a
theorem beqV_eq (a b : V) (h : beqV a b = true) : a = b := beqV_both.1 a b h
theorem beqVs_eq (a b : List V) (h : beqVs a b = true) : a = b := beqV_both.2 a b h
noncomputable def beqL {α : Type} (f : α → α → Bool) (a : List α) : List α → Bool := List.rec (motive := fun _ => List α → Bool) (fun ys => List.casesOn ys true fun _ _ => false) (fun x _ ih ys => List.casesOn ys false fun y ys => f x y && ih ys) a
theorem beqL_eq {α : Type} {f : α → α → Bool} (hf : ∀ a b, f a b = true → a = b) {a : List α} : ∀ {b}, beqL f a b = true → a = b := List.rec (motive := fun a => ∀ {b}, beqL f a b = true → a = b) (fun {b} => List.casesOn (motive := fun b => beqL f [] b = true → [] = b) b (fun _ => rfl) fun _ _ => nf)
 (fun x xs ih {b} => List.casesOn (motive := fun b => beqL f (x :: xs) b = true → x :: xs = b) b nf fun y ys h => have h := Bool.and_eq_true_iff.mp h; hf x y h.1 ▸ (ih h.2 : xs = ys) ▸ rfl) a
noncomputable abbrev beqFs := beqL fun (p q : Str × V) => p.1.cps.toList == q.1.cps.toList && beqV p.2 q.2
theorem beqFs_eq {a b : List (Str × V)} (h : beqFs a b = true) : a = b := beqL_eq (fun p q h => have h := Bool.and_eq_true_iff.mp h; Prod.ext (str_ext (beq_iff_eq.mp h.1)) (beqV_eq _ _ h.2)) h
noncomputable def beqSq (a b : Option (List V)) : Bool := Option.casesOn a (Option.casesOn b true fun _ => false) fun a => oB b (beqVs a)
theorem beqSq_eq {a b : Option (List V)} (h : beqSq a b = true) : a = b := by
 cases a with
 | none => cases b with
  | none => rfl
  | some => exact nf h
 | some a => exact oB_is h fun y e q => e ▸ congrArg some (beqVs_eq a y q)
noncomputable def beqO (a b : AO) : Bool := AO.casesOn a (fun a => AO.casesOn b (beqVs a) fun _ _ _ => false) fun C a f => AO.casesOn b (fun _ => false) fun D b g => C == D && (beqSq a b && beqFs f g)
theorem beqO_eq {a b : AO} (h : beqO a b = true) : a = b := by
 cases a with
 | list a => cases b with
  | list b => exact congrArg _ (beqVs_eq a b h)
  | inst => exact nf h
 | inst C a f => cases b with
  | list b => exact nf h
  | inst D b g =>
   have h := Bool.and_eq_true_iff.mp h
   have h2 := Bool.and_eq_true_iff.mp h.2
   rw [beq_iff_eq.mp h.1, beqSq_eq h2.1, beqFs_eq h2.2]
noncomputable abbrev beqH := beqL beqO
theorem beqH_eq {a b : List AO} (h : beqH a b = true) : a = b := beqL_eq (fun _ _ h => beqO_eq h) h
noncomputable def wordsN : Nat → List (List Bool)
 | 0 => [[]]
 | n + 1 => (wordsN n).flatMap fun w => [false :: w, true :: w]
theorem mem_words : ∀ w : List Bool, w ∈ wordsN w.length
 | [] => by simp [wordsN]
 | b :: w => by
  simp only [List.length_cons, wordsN, List.mem_flatMap]
  exact ⟨w, mem_words w, by cases b <;> simp⟩
theorem all_words {n : Nat} {p : List Bool → Bool} (h : (wordsN n).all p = true) {w : List Bool} (e : w.length = n) : p w = true :=
 List.all_eq_true.mp h w (e ▸ mem_words w)
noncomputable abbrev sgS (b : Bool) : Str := ⟨#[cond b 98 97]⟩
noncomputable abbrev sgV (b : Bool) : V := .str (sgS b)
noncomputable abbrev wdS (b : Bool) : Str := ⟨#[cond b 97 98, cond b 98 97]⟩
noncomputable def signsV (w : List Bool) : V := .lst (w.map sgV)
noncomputable def natsV (l : List Nat) : V := .lst (l.map fun n => .int (n : Nat))
end
end
section
section
theorem bs {α β : Type} (a : α) (f : α → Option β) : (some a).bind f = f a := by rw [Option.bind_some]
theorem ms {α β : Type} (a : α) (f : α → β) : (some a).map f = some (f a) := by rw [Option.map_some]
section
variable {loc : Loc} {H H' : List AO}
noncomputable abbrev iN (n : Nat) : V := .int (n : Int)
theorem small_nat {n : Nat} (h : n ≤ 1000) : small (n : Int) = true := by
 unfold small
 rw [Bool.and_eq_true, decide_eq_true_eq, decide_eq_true_eq]
 have : ((2 : Int) ^ 40) = 1099511627776 := by decide
 omega
theorem seq_nat {k n : Nat} (h : k < n) : seqIndex? (k : Int) n = some k := by
 unfold seqIndex?
 have h0 : ¬ ((k : Int) < 0) := by omega
 have h1 : (decide (0 ≤ (k : Int)) && decide ((k : Int) < (n : Int))) = true := by
  rw [Bool.and_eq_true, decide_eq_true_eq, decide_eq_true_eq]; omega
 simp only [if_neg h0]
 rw [if_pos h1]
 simp
theorem idx_lst {xs : List V} {k : Nat} {v : V} (hk : k ≤ 1000) (h : xs[k]? = some v) : idxF H (.lst xs) (iN k) = some (v, H) := by
 have hl : k < xs.length := by
  rcases Nat.lt_or_ge k xs.length with q | q
  ·exact q
  ·rw [List.getElem?_eq_none q] at h; cases h
 rw [idxF_int (small_nat hk)]
 show (at? (k : Int) xs).map (·, H) = _
 unfold at?
 rw [seq_nat hl, bs, h, ms]
theorem rngI1 (a : Int) : rngI [a] = if small a && small a then some (rngOf 0 1 a.toNat) else none := rfl
theorem rngI3 (a b c : Int) : rngI [a, b, c] = if (small a && small b) = true ∧ c = -1 then some (rngOf a (-1) (a - b).toNat) else none := rfl
theorem rng_nat {n : Nat} (h : n ≤ 1000) : rngV [iN n] = some ((List.range n).map iN) := by
 refine bind_of (show allM V.int? [iN n] = some [(n : Int)] from rfl) ?_
 rw [rngI1, if_pos (Bool.and_eq_true_iff.mpr ⟨small_nat h, small_nat h⟩)]
 unfold rngOf
 simp
theorem rng_down {n : Nat} (h : n ≤ 1000) : rngV [.int ((n : Int) - 1), .int (-1), .int (-1)] = some ((List.range n).reverse.map iN) := by
 have e : small ((n : Int) - 1) = true := by
  unfold small
  rw [Bool.and_eq_true, decide_eq_true_eq, decide_eq_true_eq]
  have : ((2 : Int) ^ 40) = 1099511627776 := by decide
  omega
 refine bind_of (show allM V.int? [.int ((n : Int) - 1), .int (-1), .int (-1)] = some [(n : Int) - 1, -1, -1] from rfl) ?_
 rw [rngI3, if_pos ⟨Bool.and_eq_true_iff.mpr ⟨e, by decide⟩, rfl⟩]
 unfold rngOf
 have e3 : (List.range n).reverse = (List.range n).map (n - 1 - ·) := by
  refine List.ext_getElem (by simp) fun i h1 h2 => ?_
  simp
 rw [show ((n : Int) - 1 - -1).toNat = n by omega, e3, List.map_map]
 congr 1
 refine List.map_congr_left fun i hi => ?_
 have := List.mem_range.mp hi
 show V.int _ = V.int _
 congr 1
 show (n : Int) - 1 + (i : Int) * -1 = ((n - 1 - i : Nat) : Int)
 omega
theorem pick_pos {α : Type} (xs : List α) (a b : Nat) : (((List.range (b - a)).map (a + ·)).filterMap (xs[·]?)) = (xs.drop a).take (b - a) := by
 induction (b - a) generalizing a with
 | zero => simp
 | succ n ih =>
  rw [List.range_succ_eq_map, List.map_cons, List.map_map, List.filterMap_cons]
  have e : ((fun x => a + x) ∘ Nat.succ) = fun x => (a + 1) + x := by funext x; simp only [Function.comp]; omega
  rw [e, ih (a + 1)]
  cases q : xs[a]? with
  | none =>
   have := List.getElem?_eq_none_iff.mp q
   simp only [Nat.add_zero, q]
   rw [List.drop_eq_nil_of_le (by omega), List.drop_eq_nil_of_le (by omega)]
   simp
  | some x =>
   simp only [Nat.add_zero, q]
   obtain ⟨h1, h2⟩ := List.getElem?_eq_some_iff.mp q
   rw [List.drop_eq_getElem_cons h1, List.take_succ_cons, h2]
theorem pick_take {α : Type} (xs : List α) (k : Nat) : pickI xs none (some (k : Int)) none = xs.take k := by
 unfold pickI
 rw [sliceBounds_plain]
 simp only [Option.elim, sliceRange_one]
 rw [pick_pos, clipAt_nat]
 simp
theorem pick_drop {α : Type} (xs : List α) (k : Nat) : pickI xs (some (k : Int)) none none = xs.drop k := by
 unfold pickI
 rw [sliceBounds_plain]
 simp only [Option.elim, sliceRange_one]
 rw [pick_pos, clipAt_nat, List.take_of_length_le (by simp), List.drop_eq_drop_iff]
 omega
theorem loop_app {tf : GF} {B Z : SF} {P : Loc → Prop} {G : V → Prop} {g : V → List V} {hf : List V → List AO} {N : Nat} : ∀ (xs : List V) (s : List V) (l : Loc),
  (∀ x ∈ xs, ∀ s l, P l → (∀ z ∈ s, G z) → s.length + (g x).length ≤ N → ∃ l1 l2, tf x l = some l1 ∧ B l1 (hf s) = some (.next, l2, hf (s ++ g x)) ∧ P l2) → (∀ x ∈ xs, ∀ z ∈ g x, G z) → (∀ z ∈ s, G z) → P l → s.length + (xs.flatMap g).length ≤ N → ∃ l', loopF tf B Z xs l (hf s) = Z l' (hf (s ++ xs.flatMap g)) ∧ P l'
 | [], s, l, _, _, _, p, _ => ⟨l, by simp [loopF, loopK], p⟩
 | x :: xs, s, l, st, hg, hs, p, hn => by
  simp only [List.flatMap_cons, List.length_append] at hn
  obtain ⟨l1, l2, e1, e2, p2⟩ := st x (.head _) s l p hs (by omega)
  obtain ⟨l', e3, p3⟩ := loop_app (N := N) xs (s ++ g x) l2 (fun y hy => st y (.tail _ hy)) (fun y hy => hg y (.tail _ hy)) (fun z hz => by
   rcases List.mem_append.mp hz with h | h
   ·exact hs z h
   ·exact hg x (.head _) z h) p2 (by rw [List.length_append]; omega)
  refine ⟨l', ?_, p3⟩
  unfold loopF
  rw [e1]
  simp only [bs]
  rw [e2]
  refine e3.trans ?_
  rw [List.flatMap_cons, List.append_assoc]
theorem frame_ref {F : List V → List AO → Option (V × List AO)} {args zs : List V} (e : F args [] = some (.ref 0, [.list zs])) (ha : args.all (lowV 0 8) = true) (hz : ∀ z ∈ zs, lowV 0 7 z = true) : frameG F args H = some (.lst zs, H) := by
 unfold frameG
 rw [if_pos ha]
 unfold frzG
 rw [e]
 simp only [bs, List.length_nil]
 have := frz_end (H := []) hz rfl
 simp only [List.length_nil, List.nil_append] at this
 rw [this]
 rfl
theorem len_lst {xs : List V} (h : xs.length ≤ 1000) : lenF [.lst xs] H = some (iN xs.length, H) := by
 exact congrArg (Option.map (·, H)) (if_pos (Nat.le_trans h (by decide)) : (if xs.length ≤ 1000000 then some (V.int xs.length) else none) = _)
theorem isList_lst {xs : List V} : isListV H (.lst xs) = true := rfl
theorem slice_lst {xs : List V} {f : EF} {p q r : PF} {l : Loc} {lo hi : Option Int} (e1 : f l H = some (.lst xs, H)) (e2 : p l H = some (lo, H)) (e3 : q l H = some (hi, H)) (e4 : r l H = some (none, H)) (hl : xs.length ≤ 1000) : sliceF f p q r l H = some (.lst (pickI xs lo hi none), H) := by
 simp only [sliceF, e1, e2, e3, e4, bs, listOf?]
 rw [if_pos ⟨by simp, hl⟩]
theorem low_ints {s : List V} (h : ∀ z ∈ s, ∃ n, z = iN n) (m k : Nat) : s.all (lowV m (k + 1)) = true := List.all_eq_true.mpr fun z hz => by
 obtain ⟨n, rfl⟩ := h z hz
 rfl
theorem gt_nat (a b : Nat) : gtV (iN a) (iN b) = some (.bool (Nat.blt b a)) := by
 show some (V.bool (decide ((b : Int) < (a : Int)))) = _
 congr 2
 by_cases h : b < a
 ·rw [decide_eq_true (by omega)]; exact (Nat.ble_eq.mpr h).symm
 ·rw [decide_eq_false (by omega)]
  exact (Bool.eq_false_iff.mpr fun q => h (Nat.ble_eq.mp q)).symm
theorem eq_sg (b : Bool) : eqF H (sgV b) (.str "b") = some (.bool b, H) := by cases b <;> kernel_rfl!
theorem app_run {i : Nat} {x : V} {xs : List V} (h : H[i]? = some (.list xs)) (hl : xs.length ≤ 1000) : appF [.ref i, x] H = some (.none, H.set i (.list (xs ++ [x]))) := by
 have e : appendTo i x H = some (H.set i (.list (xs ++ [x]))) := by
  unfold appendTo
  rw [h]
  exact if_pos hl
 exact congrArg (Option.map (V.none, ·)) e
end
noncomputable def Ret (B : SF) (l : Loc) (h : List AO) (v : V) (H' : List AO) : Prop := ∃ l', B l h = some (.ret v, l', H')
section
variable {f g B Z : SF} {l l' : Loc} {h h' H' : List AO} {v : V}
theorem ret_next (e : f l h = some (.next, l', h')) (r : Ret g l' h' v H') : Ret (seqF f g) l h v H' := by
 obtain ⟨l2, e2⟩ := r
 exact ⟨l2, seq_next e e2⟩
theorem expr_run {f : EF} {l : Loc} {h h' : List AO} {v : V} (e : f l h = some (v, h')) : exprF f l h = some (.next, l, h') := by
 unfold exprF
 rw [e]
 rfl
theorem meth_run {fo : EF} {D : List AO → V → Bool} {g : LF} {F : List V → List AO → Option (V × List AO)} {l : Loc} {h h1 h2 : List AO} {a : V} {vs : List V} {r} (e1 : fo l h = some (a, h1)) (d : D h1 a = true) (e2 : g l h1 = some (vs, h2)) (e3 : F (a :: vs) h2 = r) : methF fo D g F l h = r := by
 unfold methF
 rw [e1]
 simp only [bs, d, if_true, e2]
 exact e3
theorem cons_run {f : EF} {g : LF} {l : Loc} {h h1 h2 : List AO} {a : V} {vs : List V} (e1 : f l h = some (a, h1)) (e2 : g l h1 = some (vs, h2)) : consF f g l h = some (a :: vs, h2) := by
 unfold consF
 rw [e1]
 simp only [bs, e2, ms]
theorem bin_run {f g : EF} {op} {l : Loc} {h h1 h2 : List AO} {a b : V} {r} (e1 : f l h = some (a, h1)) (e2 : g l h1 = some (b, h2)) (e3 : op h2 a b = r) : binF f g op l h = r := by
 unfold binF
 rw [e1]
 simp only [bs, e2]
 exact e3
theorem test_run {f : EF} {l : Loc} {h h1 : List AO} {v : V} {b : Bool} (e1 : f l h = some (v, h1)) (e2 : truthV h1 v = some b) : testF f l h = some (b, h1) := by
 unfold testF
 rw [e1]
 simp only [bs, e2, ms]
theorem p2_run {f : V → V → Option V} {h : List AO} {a b v : V} (e : f a b = some v) : pure2 f h a b = some (v, h) := by
 unfold pure2
 rw [e, ms]
theorem valQ_run {f : EF} {l : Loc} {h h1 : List AO} {v : V} {xs : List V} (e1 : f l h = some (v, h1)) (e2 : itemsV v = some xs) : valQ f l h = some (xs, h1) := by
 unfold valQ
 rw [e1]
 simp only [bs, e2, ms]
theorem rngQ_run {g : LF} {l : Loc} {h h1 : List AO} {vs xs : List V} (e1 : g l h = some (vs, h1)) (e2 : rngV vs = some xs) : rngQ g l h = some (xs, h1) := by
 unfold rngQ
 rw [e1]
 simp only [bs, e2, ms]
theorem ite_run {t : TF} {f g : EF} {l : Loc} {h h1 : List AO} {b : Bool} {r} (e1 : t l h = some (b, h1)) (e2 : (if b then f l h1 else g l h1) = r) : iteF t f g l h = r := by
 unfold iteF
 rw [e1]
 simp only [bs]
 exact e2
theorem ret_now (e : f l h = some (.ret v, l', H')) : Ret (seqF f g) l h v H' := ⟨l', seq_ret e⟩
theorem ret_loop {q : QF} {tf : GF} {xs : List V} (e : q l h = some (xs, h')) (r : ∃ l2 h2, loopF tf B Z xs l h' = some (.next, l2, h2) ∧ Ret g l2 h2 v H') : Ret (seqF (forF q tf B Z) g) l h v H' := by
 obtain ⟨l2, h2, e2, r2⟩ := r
 exact ret_next (for_run e e2) r2
theorem app_ret {tf : GF} {s : List V} {xs : List V} (g0 : V → List V) (hf : List V → List AO) (P : Loc → Prop) (G : V → Prop) (N : Nat) (hh : h = hf s)
  (st : ∀ x ∈ xs, ∀ s l, P l → (∀ z ∈ s, G z) → s.length + (g0 x).length ≤ N → ∃ l1 l2, tf x l = some l1 ∧ B l1 (hf s) = some (.next, l2, hf (s ++ g0 x)) ∧ P l2) (hg : ∀ x ∈ xs, ∀ z ∈ g0 x, G z) (hs : ∀ z ∈ s, G z) (p : P l) (hn : s.length + (xs.flatMap g0).length ≤ N)
  (k : ∀ l', P l' → Ret g l' (hf (s ++ xs.flatMap g0)) v H') : ∃ l2 h2, loopF tf B (fun loc H => some (.next, loc, H)) xs l h = some (.next, l2, h2) ∧ Ret g l2 h2 v H' := by
 obtain ⟨l', e, p'⟩ := loop_app (Z := fun loc H => some (.next, loc, H)) (G := G) (N := N) xs s l st hg hs p hn
 exact ⟨l', _, hh ▸ e, k l' p'⟩
theorem app_in {q : QF} {tf : GF} {s : List V} {T0 : Option Loc} {xs : List V} (g0 : V → List V) (hf : List V → List AO) (P P0 : Loc → Prop) (G : V → Prop) (N : Nat) (e0 : T0 = some l) (e : q l (hf s) = some (xs, hf s))
  (st : ∀ x ∈ xs, ∀ s l, P l → (∀ z ∈ s, G z) → s.length + (g0 x).length ≤ N → ∃ l1 l2, tf x l = some l1 ∧ B l1 (hf s) = some (.next, l2, hf (s ++ g0 x)) ∧ P l2) (hg : ∀ x ∈ xs, ∀ z ∈ g0 x, G z) (hs : ∀ z ∈ s, G z) (p : P l) (hn : s.length + (xs.flatMap g0).length ≤ N) (imp : ∀ l, P l → P0 l) :
  ∃ l1 l2, T0 = some l1 ∧ seqF (forF q tf B (fun loc H => some (.next, loc, H))) (fun loc H => some (.next, loc, H)) l1 (hf s) = some (.next, l2, hf (s ++ xs.flatMap g0)) ∧ P0 l2 := by
 obtain ⟨l', e', p'⟩ := loop_app (Z := fun loc H => some (.next, loc, H)) (G := G) (N := N) xs s l st hg hs p hn
 exact ⟨l, l', e0, seq_next (for_run e e') rfl, imp _ p'⟩
theorem ret_body {xs : List (Str × Option Nat)} {bind : List V → Option (List (Str × V))} {args : List V} {H : List AO} {ab : List (Str × V)} {l0 : Loc} (e1 : bind args = some ab) (e0 : locA xs ab = l0) (r : Ret B l0 H v H') : bodyF xs bind B args H = some (v, H') := by
 obtain ⟨l2, e2⟩ := r
 exact body_ret e1 (e0 ▸ e2)
end
noncomputable def rowsP (w : List Bool) : List Nat := ((List.range w.length).filter fun k => w.getD k false).map fun k => ((w.take k).filter (!·)).length
noncomputable def hooksOf (R : List Nat) : List Nat := (List.range R.length).flatMap fun k => (List.range (R.getD k 0)).reverse.map fun j => R.getD k 0 - j + ((R.take k).filter fun r => Nat.blt j r).length
noncomputable def hooksP (w : List Bool) : List Nat := hooksOf (rowsP w)
end
end
section
section
section
variable {loc : Loc} {H H' : List AO}
noncomputable def natV : V → Nat
 | .int k => k.toNat
 | _ => 0
@[simp] theorem natV_iN (n : Nat) : natV (iN n) = n := rfl
theorem low_nats (l : List Nat) (k : Nat) : ∀ z ∈ l.map iN, lowV 0 (k + 1) z = true := fun z hz => by
 obtain ⟨n, _, rfl⟩ := List.mem_map.mp hz
 rfl
theorem low_signs (w : List Bool) : [signsV w].all (lowV 0 8) = true := by
 have : (w.map sgV).all (lowV 0 7) = true := by simp [lowV]
 simp [signsV, lowV]
theorem filter_nats {n : Nat} {q : Nat → Bool} {h : Nat → V} : (((List.range n).map iN).filter fun v => q (natV v)).map (fun v => h (natV v)) = ((List.range n).filter q).map h := by
 rw [List.filter_map, List.map_map]
 rfl
theorem strs_map {α : Type} (f : α → Str) : ∀ w : List α, strsV (w.map fun b => V.str (f b)) = some (w.map f)
 | [] => rfl
 | b :: w => by
  have e := strs_map f w
  unfold strsV at e ⊢
  rw [List.map_cons]
  unfold allM
  rw [e]
  rfl
theorem count_nat {α : Type} (f : α → Str) (y : Str) (q : α → Bool) (h : ∀ b, same (PyData.str (f b)) (.str y) = q b) : ∀ w : List α, Spec.countIn (.str y) ((w.map f).map PyData.str) = ((w.filter q).length : Int)
 | [] => rfl
 | b :: w => by
  have e := count_nat f y q h w
  rw [List.map_cons, List.map_cons]
  unfold Spec.countIn
  rw [e, h b]
  cases q' : q b <;> simp [q'] <;> omega
theorem count_run {α : Type} (f : α → Str) (y : Str) (q : α → Bool) (h : ∀ b, same (PyData.str (f b)) (.str y) = q b) (w : List α) : countF [.lst (w.map fun b => V.str (f b)), .str y] H = some (iN (w.filter q).length, H) := by
 have e : ((listOf? H (.lst (w.map fun b => V.str (f b)))).bind fun xs => (strsV xs).map fun (ys : List Str) => V.int (Spec.countIn (.str y) (ys.map PyData.str))) = some (iN (w.filter q).length) := by
  refine bind_of rfl ?_
  rw [strs_map f w, ms, count_nat f y q h w]
 exact congrArg (Option.map (·, H)) e
theorem count_sg (w : List Bool) : countF [.lst (w.map sgV), .str "a"] H = some (iN (w.filter (!·)).length, H) := count_run sgS "a" (!·) (fun b => by cases b <;> kernel_rfl!) w
theorem hooks_eq (R : List Nat) : (((List.range R.length).map iN).flatMap fun x => ((List.range (R.getD (natV x) 0)).reverse.map iN).flatMap fun y => [iN (R.getD (natV x) 0 - natV y + ((R.take (natV x)).filter fun r => Nat.blt (natV y) r).length)]) = (hooksOf R).map iN := by
 unfold hooksOf
 rw [List.flatMap_map, List.map_flatMap]
 congr 1
 funext k
 rw [List.flatMap_map, List.map_map]
 simp only [natV_iN]
 generalize (List.range (R.getD k 0)).reverse = l
 induction l with
 | nil => rfl
 | cons j l ih => rw [List.flatMap_cons, ih]; rfl
theorem s234 {w : List Bool} (hw : w.length ≤ 20) (hh : (hooksP w).length ≤ 900) : frameG F234 [signsV w] H = some (natsV (hooksP w), H) := by
 refine frame_ref ?_ (low_signs w) (low_nats _ 6)
 unfold F234
 have hR : (rowsP w).length ≤ 20 := by unfold rowsP; rw [List.length_map]; exact Nat.le_trans (List.length_filter_le _ _) (by simpa using hw)
 have hRk : ∀ k v, (rowsP w)[k]? = some v → v ≤ 20 := fun k v e => by
  have := List.mem_of_getElem? e
  unfold rowsP at this
  obtain ⟨j, _, rfl⟩ := List.mem_map.mp this
  refine Nat.le_trans (List.length_filter_le _ _) ?_
  rw [List.length_take]; omega
 refine ret_body (ab := [(("signs" : Str), signsV w)]) (l0 := [some (signsV w), none, none, none, none]) rfl rfl (ret_next (set_run (v := natsV (rowsP w)) (h' := []) ?c1) (ret_next (set_run (v := .ref 0) (h' := [.list []]) ?c2) (ret_loop (xs := (List.range (rowsP w).length).map iN) (h' := [.list []]) ?c3 ?c4)))
 case c1 =>
  refine (comp1 (H := []) (xs := (List.range w.length).map iN) (fun v => w.getD (natV v) false) (fun v => iN ((w.take (natV v)).filter (!·)).length) ?_ ?_ ?_ ?_ ?_ rfl).trans ?_
  ·simp only [testF, binF, callF, consF, methF, rngQ, valQ, partF, List.map_cons, List.map_nil, List.getD_cons_zero, List.getD_cons_succ, List.getElem?_cons_zero, List.getElem?_cons_succ, Option.join_some, ms, bs, List.set_cons_zero, List.set_cons_succ, signsV, len_lst (show (w.map sgV).length ≤ 1000 by rw [List.length_map]; omega), List.length_map, rng_nat (show w.length ≤ 1000 by omega)]
  ·intro x hx ys
   obtain ⟨k, hk, rfl⟩ := List.mem_map.mp hx
   have hk := List.mem_range.mp hk
   simp only [testF, binF, callF, consF, methF, rngQ, valQ, partF, List.map_cons, List.map_nil, List.getD_cons_zero, List.getD_cons_succ, List.getElem?_cons_zero, List.getElem?_cons_succ, Option.join_some, ms, bs, List.set_cons_zero, List.set_cons_succ, signsV, idx_lst (xs := w.map sgV) (k := k) (v := sgV (w.getD k false)) (by omega) (by simp [hk]), eq_sg, truthV, natV_iN]
  ·intro x hx _ ys
   obtain ⟨k, hk, rfl⟩ := List.mem_map.mp hx
   have hk := List.mem_range.mp hk
   unfold methF
   rw [slice_lst (xs := w.map sgV) (lo := none) (hi := some (k : Int)) rfl rfl rfl rfl (by rw [List.length_map]; omega)]
   simp only [testF, binF, callF, consF, methF, rngQ, valQ, partF, List.map_cons, List.map_nil, List.getD_cons_zero, List.getD_cons_succ, List.getElem?_cons_zero, List.getElem?_cons_succ, Option.join_some, ms, bs, List.set_cons_zero, List.set_cons_succ, pick_take, ← List.map_take, isList_lst, if_true, count_sg, natV_iN]
  ·intro x hx _
   rfl
  ·simp; omega
  ·rw [filter_nats (q := fun k => w.getD k false) (h := fun k => iN ((w.take k).filter (!·)).length)]
   unfold natsV rowsP
   rw [List.map_map]
   rfl
 case c2 => rfl
 case c3 =>
  simp only [testF, binF, callF, consF, methF, rngQ, valQ, partF, List.map_cons, List.map_nil, List.getD_cons_zero, List.getD_cons_succ, List.getElem?_cons_zero, List.getElem?_cons_succ, Option.join_some, ms, bs, List.set_cons_zero, List.set_cons_succ, natsV, len_lst (show ((rowsP w).map iN).length ≤ 1000 by rw [List.length_map]; omega), List.length_map, rng_nat (show (rowsP w).length ≤ 1000 by omega)]
 case c4 =>
  have hRl : ∀ {k}, k < (rowsP w).length → (rowsP w).getD k 0 ≤ 20 := fun {k} h => hRk k _ (by rw [List.getElem?_eq_getElem h, List.getD_eq_getElem?_getD, List.getElem?_eq_getElem h]; rfl)
  refine app_ret (s := []) (fun x => ((List.range ((rowsP w).getD (natV x) 0)).reverse.map iN).flatMap fun y => [iN ((rowsP w).getD (natV x) 0 - natV y + (((rowsP w).take (natV x)).filter fun r => Nat.blt (natV y) r).length)]) (fun s => [.list s])
   (fun l => ∃ a b, l = [some (signsV w), a, some (natsV (rowsP w)), some (.ref 0), b]) (fun z => ∃ n, z = iN n) 1000 rfl ?st ?hg (fun z hz => absurd hz (List.not_mem_nil)) ⟨_, _, rfl⟩ ?hn ?k
  case st =>
   intro x hx s l ⟨a, b, hl⟩ hs hn
   subst hl
   obtain ⟨k, hk, rfl⟩ := List.mem_map.mp hx
   have hk := List.mem_range.mp hk
   refine app_in (l := [some (signsV w), some (iN k), some (natsV (rowsP w)), some (.ref 0), b]) (s := s) (xs := (List.range ((rowsP w).getD k 0)).reverse.map iN) (fun y => [iN ((rowsP w).getD k 0 - natV y + (((rowsP w).take k).filter fun r => Nat.blt (natV y) r).length)]) (fun s => [.list s])
    (fun l => ∃ b, l = [some (signsV w), some (iN k), some (natsV (rowsP w)), some (.ref 0), b]) _ (fun z => ∃ n, z = iN n) 1000 ?ie0 ?ie ?ist ?ihg hs ⟨_, rfl⟩ ?ihn ?iimp
   case ie0 => rfl
   case iimp => exact fun l ⟨b, e⟩ => ⟨_, b, e⟩
   case ie =>
    have h1 : (rowsP w)[k]? = some ((rowsP w).getD k 0) := by rw [List.getD_eq_getElem?_getD, List.getElem?_eq_getElem hk]; rfl
    exact rngQ_run (vs := [.int ((((rowsP w).getD k 0 : Nat) : Int) - 1), .int (-1), .int (-1)]) (h1 := [.list s]) (cons_run (a := .int ((((rowsP w).getD k 0 : Nat) : Int) - 1)) (h1 := [.list s]) (bin_run (a := iN ((rowsP w).getD k 0)) (h1 := [.list s]) (h2 := [.list s]) (bin_run rfl rfl (idx_lst (k := k) (by omega) (by rw [List.getElem?_map, h1]; rfl))) rfl rfl) rfl) (rng_down (by have := hRl hk; omega))
   case ist =>
    intro y hy s l ⟨b, hl⟩ hs hn
    subst hl
    obtain ⟨j, hj, rfl⟩ := List.mem_map.mp hy
    have hj := List.mem_range.mp (List.mem_reverse.mp hj)
    have h1 : (rowsP w)[k]? = some ((rowsP w).getD k 0) := by rw [List.getD_eq_getElem?_getD, List.getElem?_eq_getElem hk]; rfl
    have hr := hRl hk
    refine ⟨[some (signsV w), some (iN k), some (natsV (rowsP w)), some (.ref 0), some (iN j)], _, rfl, seq_next (expr_run (meth_run (a := .ref 0) (h1 := [.list s]) rfl rfl (cons_run (h1 := [.list s]) (bin_run (a := .int (((rowsP w).getD k 0 : Nat) - (j : Nat) : Int)) (h1 := [.list s]) (bin_run (a := iN ((rowsP w).getD k 0)) (h1 := [.list s]) (bin_run rfl rfl (idx_lst (k := k) (by omega) (by rw [List.getElem?_map, h1]; rfl))) rfl rfl)
     (call_run (cons_run (a := .lst ((((rowsP w).take k).filter fun r => Nat.blt j r).map iN)) (h1 := [.list s]) ?cc rfl) (len_lst ?cl)) (p2_run (v := iN ((rowsP w).getD k 0 - j + (((rowsP w).take k).filter fun r => Nat.blt j r).length)) ?ca)) rfl) (app_run rfl (by simp at hn; omega)))) rfl, ⟨_, rfl⟩⟩
    case cc =>
     refine (comp1 (H := [.list s]) (xs := ((rowsP w).take k).map iN) (fun v => Nat.blt j (natV v)) (fun v => v) ?_ ?_ ?_ ?_ ?_ ?_).trans ?_
     ·refine valQ_run (slice_lst (xs := (rowsP w).map iN) (lo := none) (hi := some (k : Int)) rfl rfl rfl rfl (by rw [List.length_map]; omega)) ?_
      rw [pick_take, ← List.map_take]
      rfl
     ·intro x hx ys
      obtain ⟨r, _, rfl⟩ := List.mem_map.mp hx
      exact test_run (bin_run rfl rfl (p2_run (gt_nat r j))) rfl
     ·intro x _ _ ys
      rfl
     ·intro x hx _
      obtain ⟨r, _, rfl⟩ := List.mem_map.mp hx
      rfl
     ·rw [List.length_map, List.length_take]; omega
     ·show ((s.all (lowV 1 8)) && true) = true
      rw [low_ints hs]
      rfl
     ·rw [List.filter_map, List.map_id']
      rfl
    case cl =>
     rw [List.length_map]
     refine Nat.le_trans (List.length_filter_le _ _) ?_
     rw [List.length_take]; omega
    case ca =>
     show some (V.int _) = some (V.int _)
     rw [List.length_map]
     congr 2
     omega
   case ihg =>
    intro x _ z hz
    exact ⟨_, List.mem_singleton.mp hz⟩
   case ihn => exact hn
  case hg =>
   intro x _ z hz
   obtain ⟨y, _, hz⟩ := List.mem_flatMap.mp hz
   exact ⟨_, List.mem_singleton.mp hz⟩
  case hn => rw [hooks_eq, List.length_map]; exact Nat.le_trans (Nat.le_of_eq (Nat.zero_add _)) (Nat.le_trans hh (by decide))
  case k =>
   intro l' hl
   obtain ⟨a, b, rfl⟩ := hl
   rw [hooks_eq]
   exact ret_now (ret_run rfl)
end
end
end
section
section
noncomputable def okD (k : Nat) : V → Bool := Nat.rec (motive := fun _ => V → Bool) (fun _ => false) (fun _ ih v => V.casesOn v true (fun _ => true) (fun _ => true) PyData.strOk (fun xs => xs.all ih) (fun xs => xs.all ih) (fun _ => false) (fun _ _ => false) (fun _ => false) fun _ => false) k
noncomputable def cmpB (a b : Bool) : Int := cond a (cond b 0 1) (cond b (-1) 0)
noncomputable abbrev pcV (b : Bool) : V := .tup [.str " ", .str (sgS b)]
noncomputable abbrev accW (w : List Bool) : AO := accA (w.map pcV) (.int 0)
noncomputable def placesP (st : Nat) (w : List Bool) : List Nat := (List.range (w.length - st)).filter fun k => cmpB (w.getD k false) (w.getD (k + st) false) == -1
noncomputable def swapP (st k : Nat) (w : List Bool) : List Bool := w.take k ++ w.getD (k + st) false :: (((w.drop k).drop 1).take (st - 1) ++ w.getD k false :: (w.drop k).drop (st + 1))
noncomputable def strW (w : List Bool) : Str := Txt.join eStr (w.map fun b => Txt.join eStr [" ", sgS b])
section
variable {loc : Loc} {H H' : List AO}
theorem okD_all {H : List AO} {k n : Nat} (ih : ∀ v : V, okD k v = true → ∃ d, toD H n v = some d ∧ d.canLay0 = true ∧ d.depth ≤ k) (xs : List V) : xs.all (okD k) = true → ∃ ds, allM (toD H n) xs = some ds ∧ PyData.canLayAll0 ds = true ∧ PyData.depthAll ds ≤ k := by
 induction xs with
 | nil => exact fun _ => ⟨[], rfl, by simp only [PyData.canLayAll0], by simp only [PyData.depthAll]; exact Nat.zero_le _⟩
 | cons x xs ih2 =>
  intro h
  have h := Bool.and_eq_true_iff.mp h
  refine (ih x h.1).elim fun d z => (ih2 h.2).elim fun ds y => ⟨d :: ds, bind_of z.1 (congrArg (Option.map (d :: ·)) y.1), ?_, ?_⟩
  ·rw [PyData.canLayAll0, z.2.1, y.2.1, Bool.and_self]
  ·rw [PyData.depthAll]
   exact Nat.max_le.mpr ⟨z.2.2, y.2.2⟩
theorem okD_leaf {H : List AO} {k n : Nat} {v : V} {d : PyData} (e : toD H (n + 1) v = some d) (h1 : d.canLay0 = true) (h2 : d.depth = 0) : ∃ d, toD H (n + 1) v = some d ∧ d.canLay0 = true ∧ d.depth ≤ k := ⟨d, e, h1, h2 ▸ Nat.zero_le _⟩
theorem okD_toD (k : Nat) : ∀ (n : Nat) (v : V), okD k v = true → k ≤ n → ∃ d, toD H n v = some d ∧ d.canLay0 = true ∧ d.depth ≤ k := by
 induction k with
 | zero => exact fun _ _ h _ => nf h
 | succ k ih =>
  intro n v h hk
  cases n with
  | zero => exact absurd hk (Nat.not_succ_le_zero _)
  | succ n =>
   have ih := fun v h => ih n v h (Nat.le_of_succ_le_succ hk)
   exact V.casesOn (motive_1 := fun v => okD (k + 1) v = true → ∃ d, toD H (n + 1) v = some d ∧ d.canLay0 = true ∧ d.depth ≤ k + 1) v (fun _ => okD_leaf rfl (by rw [PyData.canLay0]) (by rw [PyData.depth])) (fun _ _ => okD_leaf rfl (by rw [PyData.canLay0]) (by rw [PyData.depth])) (fun _ _ => okD_leaf rfl (by rw [PyData.canLay0]) (by rw [PyData.depth])) (fun _ h => okD_leaf rfl (by rw [PyData.canLay0]; exact h) (by rw [PyData.depth]))
    (fun xs h => (okD_all ih xs h).elim fun ds z => ⟨.tuple ds, congrArg (Option.map PyData.tuple) z.1, by rw [PyData.canLay0]; exact z.2.1, by rw [PyData.depth]; exact Nat.succ_le_succ z.2.2⟩) (fun xs h => (okD_all ih xs h).elim fun ds z => ⟨.list ds, congrArg (Option.map PyData.list) z.1, by rw [PyData.canLay0]; exact z.2.1, by rw [PyData.depth]; exact Nat.succ_le_succ z.2.2⟩)
    (fun _ => nf) (fun _ _ => nf) (fun _ => nf) (fun _ => nf) h
theorem okD_shaped {v : V} (h : okD 8 v = true) : ∃ d, toD H 8 v = some d ∧ SeqAt.shaped d = true := by
 obtain ⟨d, e, h1, h2⟩ := okD_toD (H := H) 8 8 v h (Nat.le_refl _)
 exact ⟨d, e, by unfold SeqAt.shaped; rw [h1, decide_eq_true (by omega)]; rfl⟩
theorem eqG_run {g : PyData → PyData → Bool} {a b : V} {x y : PyData} {r : Bool} (e1 : toD H 8 a = some x) (e2 : toD H 8 b = some y) (h1 : SeqAt.shaped x = true) (h2 : SeqAt.shaped y = true) (e : g x y = r) : eqG g H a b = some (.bool r, H) := bind_of e1 (bind_of e2 ((if_pos (Bool.and_eq_true_iff.mpr ⟨h1, h2⟩)).trans (e ▸ rfl)))
theorem eq_self' {v : V} (h : okD 8 v = true) : eqF H v v = some (.bool true, H) := (okD_shaped (H := H) h).elim fun d z => eqG_run z.1 z.1 z.2 z.2 (SeqAt.eqv_refl d (SeqAt.canLay_of_shaped z.2))
theorem ne_self {v : V} (h : okD 8 v = true) : neF H v v = some (.bool false, H) := (okD_shaped (H := H) h).elim fun d z => eqG_run z.1 z.1 z.2 z.2 (congrArg not (SeqAt.eqv_refl d (SeqAt.canLay_of_shaped z.2)))
theorem okD_ints (l : List Int) (k : Nat) : okD (k + 2) (.lst (l.map V.int)) = true := by
 show (l.map V.int).all (okD (k + 1)) = true
 rw [List.all_map]
 exact List.all_eq_true.mpr fun _ _ => rfl
theorem eq_nil (l : List Nat) : eqF H (natsV l) (.lst []) = some (.bool l.isEmpty, H) := by
 cases l with
 | nil => kernel_rfl!
 | cons n l =>
  obtain ⟨d, e, hs⟩ := okD_shaped (H := H) (v := natsV (n :: l)) (by
   show ((n :: l).map fun n => V.int (n : Nat)).all (okD 7) = true
   rw [List.all_map]
   exact List.all_eq_true.mpr fun _ _ => rfl)
  refine omp (α := List PyData) (o := allM (toD H 7) ((n :: l).map fun n => V.int (n : Nat))) e fun ds e4 q2 => obp e4 fun y _ e5 => omp e5 fun ys _ q3 => ?_
  subst q2 q3
  exact eqG_run e (show toD H 8 (.lst []) = some (.list []) from rfl) hs (by kernel_rfl!) (by simp only [PyData.eqv, PyData.eqvAll]; rfl)
theorem eq_int (a b : Int) : eqF H (.int a) (.int b) = some (.bool (a == b), H) := rfl
theorem inst_eq {xs : List V} {z : V} {i : Nat} (e : H[i]? = some (accA xs z)) : instOf? H (.ref i) = some (i, 178, some xs, [(("_initial_size" : Str), z)]) := bind_of rfl (bind_of e rfl)
theorem seq_acc {xs : List V} {z : V} {i : Nat} (h : H[i]? = some (accA xs z)) : seqOf? 178 H (.ref i) = some (i, xs, [(("_initial_size" : Str), z)]) := bind_of (inst_eq h) rfl
theorem idxA_int {C : Addr} {k : Int} {a : V} (hk : small k = true) : idxA C H a (.int k) = (seqOf? C H a).bind fun q => (at? k q.2.1).map (·, H) := if_pos hk
theorem idxA_run {xs : List V} {z v : V} {i k : Nat} (h : H[i]? = some (accA xs z)) (hk : k ≤ 1000) (e : xs[k]? = some v) : idxA 178 H (.ref i) (iN k) = some (v, H) := by
 have hl : k < xs.length := by
  rcases Nat.lt_or_ge k xs.length with q | q
  ·exact q
  ·rw [List.getElem?_eq_none q] at e; cases e
 exact (idxA_int (small_nat hk)).trans (bind_of (seq_acc h) (congrArg (Option.map (·, H)) (bind_of (seq_nat hl) e)))
theorem inst_acc {xs : List V} {z : V} {i : Nat} (h : H[i]? = some (accA xs z)) (name : Str) (hn : (name == ("_initial_size" : Str)) = false) : isInst 178 name H (.ref i) = true := by
 unfold isInst
 rw [inst_eq h]
 show (178 == 178 && (match name == ("_initial_size" : Str) with | true => some z | false => none).isNone) = true
 rw [hn]
 rfl
theorem tup2_run {f g : EF} {l : Loc} {h h1 h2 : List AO} {a b : V} (e1 : f l h = some (a, h1)) (e2 : g l h1 = some (b, h2)) : tupF (consF f (consF g fun _ H => some ([], H))) l h = some (.tup [a, b], h2) := by
 unfold tupF
 rw [cons_run e1 (cons_run e2 rfl)]
 rfl
theorem body_next {xs : List (Str × Option Nat)} {bind : List V → Option (List (Str × V))} {B : SF} {args : List V} {ab : List (Str × V)} {l0 l : Loc} (e1 : bind args = some ab) (e0 : locA xs ab = l0) (e2 : B l0 H = some (.next, l, H')) : bodyF xs bind B args H = some (.none, H') := bind_of e1 (bind_of (e0 ▸ e2) rfl)
theorem body_run {xs : List (Str × Option Nat)} {bind : List V → Option (List (Str × V))} {B : SF} {args : List V} {ab : List (Str × V)} {l0 l : Loc} {v : V} (e1 : bind args = some ab) (e0 : locA xs ab = l0) (e2 : B l0 H = some (.ret v, l, H')) : bodyF xs bind B args H = some (v, H') := bind_of e1 (bind_of (e0 ▸ e2) rfl)
theorem push_run {xs : List V} {z a b : V} {i : Nat} (h : H[i]? = some (accA xs z)) (hl : xs.length ≤ 1000) : F122 [.ref i, a, b] H = some (.none, H.set i (accA (xs ++ [.tup [a, b]]) z)) := by
 unfold F122 P122
 dsimp only
 refine body_next (ab := [(("self" : Str), .ref i), (("fws" : Str), a), (("string" : Str), b)]) (l0 := [some (.ref i), some a, some b]) rfl rfl (seq_next (expr_run (v := .none) (meth_run (a := .ref i) (h1 := H) rfl (inst_acc h _ (by rfl)) (cons_run (tup2_run (a := a) (b := b) rfl rfl) rfl) ?_)) rfl)
 exact bind_of (o := two? [V.ref i, V.tup [a, b]]) rfl (bind_of (seq_acc h) (if_pos hl))
theorem sliceA_run {C : Addr} {f : EF} {p q r : PF} {l : Loc} {h1 h2 h3 h4 : List AO} {a : V} {lo hi st : Option Int} {i : Nat} {xs : List V} {fs} (e1 : f l H = some (a, h1)) (e2 : p l h1 = some (lo, h2)) (e3 : q l h2 = some (hi, h3)) (e4 : r l h3 = some (st, h4)) (e5 : seqOf? C h4 a = some (i, xs, fs)) (g : st ≠ some 0 ∧ xs.length ≤ 1000) : sliceA C f p q r l H = some (.lst (pickI xs lo hi st), h4) := by
 exact bind_of e1 (bind_of e2 (bind_of e3 (bind_of e4 (bind_of e5 (if_pos g)))))
theorem setslice_run {C : Addr} {f fo : EF} {p q : PF} {l : Loc} {h1 h2 h3 h4 : List AO} {y a : V} {lo hi : Option Int} {i : Nat} {xs ys : List V} {fs} (e1 : f l H = some (y, h1)) (e2 : fo l h1 = some (a, h2)) (e3 : p l h2 = some (lo, h3)) (e4 : q l h3 = some (hi, h4)) (e5 : seqOf? C h4 a = some (i, xs, fs)) (e6 : listOf? h4 y = some ys) (g : xs.length + ys.length ≤ 1000) : setsliceF C f fo p q l H = some (.next, l, h4.set i (.inst C (some (setPick xs ys lo hi)) fs)) := by
 exact bind_of e1 (bind_of e2 (bind_of e3 (bind_of e4 (bind_of e5 (bind_of e6 (if_pos g))))))
theorem setPick_take {α : Type} {xs : List α} {k : Nat} (hk : k ≤ xs.length) : setPick xs [] (some (k : Int)) none = xs.take k := by
 unfold setPick
 rw [sliceBounds_plain]
 simp only [Option.elim, clipAt_nat, Int.toNat_natCast]
 rw [Nat.min_eq_left hk, List.drop_eq_nil_of_le (by omega)]
 simp
theorem setPick_all {α : Type} {xs ys : List α} : setPick xs ys none none = ys := by
 unfold setPick
 rw [sliceBounds_plain]
 simp only [Option.elim, Int.toNat_natCast]
 rw [List.drop_eq_nil_of_le (by omega)]
 simp
theorem pop_run {xs : List V} {z : V} {i k : Nat} (h : H[i]? = some (accA xs z)) (hl : xs.length ≤ 1000) (hk : k ≤ xs.length) : F130 [.ref i, iN k] H = some (.lst (xs.drop k), H.set i (accA (xs.take k) z)) := by
 unfold F130
 refine body_run (ab := [(("self" : Str), .ref i), (("i" : Str), iN k)]) (l0 := [some (.ref i), some (iN k), none]) rfl rfl (seq_next (set_run (v := .lst (xs.drop k)) (h' := H) ?e1) (seq_next (l' := [some (.ref i), some (iN k), some (.lst (xs.drop k))]) (h' := H.set i (accA (xs.take k) z)) ?e2 (seq_ret (ret_run rfl))))
 case e1 =>
  rw [← pick_drop]
  exact sliceA_run (a := .ref i) rfl rfl rfl rfl (seq_acc h) ⟨by simp, hl⟩
 case e2 =>
  rw [← setPick_take hk]
  exact setslice_run (y := .lst []) (a := .ref i) (ys := []) rfl rfl rfl rfl (seq_acc h) rfl (by simpa using hl)
theorem cmp_run (a b : Bool) : F203 [pcV a, pcV b] H = some (.int (cmpB a b), H) := by
 cases a <;> cases b <;> kernel_rfl!
noncomputable abbrev prV (p : Str × Str) : V := .tup [.str p.1, .str p.2]
theorem pairs_pr (l : List (Str × Str)) : pairsV (l.map prV) = some l := List.rec (motive := fun l => pairsV (l.map prV) = some l) rfl (fun p l ih => bind_of (o := pairV (prV p)) (f := fun y => (pairsV (l.map prV)).map (y :: ·)) rfl (congrArg (Option.map (p :: ·)) ih)) l
theorem len_acc {cur : List (Str × Str)} {n : Nat} {i : Nat} (e : H[i]? = some (accA (cur.map prV) (.int 0))) (hl : ∀ p ∈ cur, p.1.length ≤ 1000 ∧ p.2.length ≤ 1000) (hs : sumLen cur = (n : Int)) (hn : n ≤ 100000) : lenA 178 len145 [.ref i] H = some (iN n, H) := by
 have h3 : (small 0 && cur.all fun p => decide (p.1.length ≤ 1000000) && decide (p.2.length ≤ 1000000)) = true := Bool.and_eq_true_iff.mpr ⟨by decide, List.all_eq_true.mpr fun p hp => Bool.and_eq_true_iff.mpr ⟨decide_eq_true (Nat.le_trans (hl p hp).1 (by decide)), decide_eq_true (Nat.le_trans (hl p hp).2 (by decide))⟩⟩
 have h5 : len145 [.ref i] H = some (iN n, H) := bind_of (seq_acc e) (bind_of (pairs_pr cur) ((if_pos h3).trans (by rw [hs, Int.zero_add])))
 exact bind_of (o := one? [V.ref i]) rfl (bind_of (inst_eq e) ((if_pos rfl).trans (bind_of h5 (bind_of (o := V.int? (iN n)) rfl (if_pos ⟨by omega, by
  have : ((2 : Int) ^ 40) = 1099511627776 := by decide
  omega⟩)))))
theorem str_acc {cur : List (Str × Str)} {i : Nat} {z : V} (e : H[i]? = some (accA (cur.map prV) z)) (hl : ∀ p ∈ cur, p.1.length ≤ 1000 ∧ p.2.length ≤ 1000) (hs : (cur.map fun p => (oneStr p).length).sum + cur.length ≤ 1000) : strA 178 str152 [.ref i] H = some (.str (allStr cur), H) := by
 have h5 : str152 [.ref i] H = some (.str (allStr cur), H) := bind_of (seq_acc e) (bind_of (pairs_pr cur) (if_pos ⟨Nat.le_trans hs (by decide), List.all_eq_true.mpr fun p hp => decide_eq_true (Nat.le_trans (Nat.add_le_add (hl p hp).1 (hl p hp).2) (by decide))⟩))
 exact bind_of (o := one? [V.ref i]) rfl (bind_of (inst_eq e) ((if_pos rfl).trans (bind_of h5 rfl)))
theorem testA_run {f : EF} {l : Loc} {h1 h2 : List AO} {a : V} {m : Int} (e1 : f l H = some (a, h1)) (e2 : lenA 178 len145 [a] h1 = some (.int m, h2)) : testA 178 len145 f l H = some (m != 0, h2) := bind_of e1 (bind_of e2 rfl)
theorem pop_end {xs : List V} {y z : V} {i : Nat} (h : H[i]? = some (accA (xs ++ [y]) z)) (hl : xs.length < 1000) : pop138 [.ref i] H = some (y, H.set i (accA xs z)) := by
 have hn : (xs ++ [y]).length = xs.length + 1 := List.length_append
 have hq : selfSeq 178 [some (.ref i)] H = some (i, xs ++ [y], [(("_initial_size" : Str), z)]) := bind_of rfl (seq_acc h)
 have h1 : superLen 178 [some (.ref i)] H = some (iN (xs ++ [y]).length, H) := bind_of hq (if_pos (show (xs ++ [y]).length ≤ 100000 by omega))
 have h2 : superPop 178 [some (.ref i)] H = some (y, H.set i (accA xs z)) := bind_of hq ((if_pos (show (xs ++ [y]).length ≤ 1000 by omega)).trans (by rw [List.getLast?_concat, List.dropLast_concat]; rfl))
 have h3 : ((((xs ++ [y]).length : Nat) : Int) == 0) = false := by rw [hn]; exact beq_false_of_ne (by omega)
 unfold pop138 P138
 dsimp only
 exact body_run (ab := [(("self" : Str), .ref i)]) (l0 := [some (.ref i)]) rfl rfl (seq_next (h' := H) (if_false' (test_run (bin_run (meth_run (a := .ref i) (h1 := H) rfl (inst_acc h _ (by rfl)) rfl (body_run (ab := [(("self" : Str), .ref i)]) (l0 := [some (.ref i)]) rfl rfl (seq_ret (ret_run h1)))) rfl (eq_int _ _)) (congrArg some h3)) rfl) (seq_ret (ret_run h2)))
end
end
end
section
section
noncomputable def everyP (st : Nat) : Nat → List Bool → List Bool
 | _, [] => []
 | 0, b :: w => b :: everyP st (st - 1) w
 | k + 1, _ :: w => everyP st k w
noncomputable def cntT : List Bool → Nat
 | [] => 0
 | b :: w => cond b (cntT w + 1) (cntT w)
noncomputable def inv1 : List Bool → Nat
 | [] => 0
 | b :: w => cond b (inv1 w) (cntT w + inv1 w)
noncomputable def invP (st : Nat) (w : List Bool) : Nat := ((List.range st).map fun c => inv1 (everyP st c w)).sum
noncomputable def dueP (st : Nat) (w : List Bool) : List Bool := (List.range w.length).map fun k => Nat.blt (k / st) (cntT (everyP st (k % st) w))
section
variable {loc : Loc} {H H' : List AO} {f g B Z : SF} {l l' : Loc} {h h' : List AO} {v : V}
theorem ret_loopR {q : QF} {tf : GF} {xs : List V} (e : q l h = some (xs, h')) (r : ∃ l2, loopF tf B Z xs l h' = some (.ret v, l2, H')) : Ret (seqF (forF q tf B Z) g) l h v H' := by
 obtain ⟨l2, e2⟩ := r
 exact ret_now (for_run e e2)
noncomputable def Run (B : SF) (l : Loc) (h : List AO) (R : FL → Loc → List AO → Prop) : Prop := ∃ fl l2 h2, B l h = some (fl, l2, h2) ∧ R fl l2 h2
theorem run_next {R : FL → Loc → List AO → Prop} (e : f l h = some (.next, l', h')) (r : Run g l' h' R) : Run (seqF f g) l h R := by
 obtain ⟨fl, l2, h2, e2, r2⟩ := r
 exact ⟨fl, l2, h2, seq_next e e2, r2⟩
theorem iter249 {tf : GF} {st : Nat} {P : Int → Loc → Prop}
  (hstep : ∀ w pick l c, w.length = 8 → P pick l → ∃ l1, tf (iN c) l = some l1 ∧ Run B l1 [accW w] fun fl l2 h2 => (placesP st w = [] ∧ fl = .ret (.tup [.str (strW w), iN c]) ∧ h2 = [accW w]) ∨ (∃ k pick', k ∈ placesP st w ∧ fl = .next ∧ h2 = [accW (swapP st k w)] ∧ P pick' l2))
  (fin : ∀ w : List Bool, w.length = 8 → (placesP st w = [] → invP st w = 0 ∧ dueP st w = w) ∧ ∀ k ∈ placesP st w, (swapP st k w).length = 8 ∧ invP st (swapP st k w) + 1 = invP st w ∧ dueP st (swapP st k w) = dueP st w) :
  ∀ (m : Nat) (w : List Bool) (pick : Int) (l : Loc) (c n r : Nat), w.length = 8 → invP st w = m → P pick l → m < n → c + m = r → ∃ l', loopF tf B Z ((List.range' c n).map iN) l [accW w] = some (.ret (.tup [.str (strW (dueP st w)), iN r]), l', [accW (dueP st w)]) := by
 intro m
 induction m with
 | zero =>
  intro w pick l c n r hw hm p hn hr
  obtain ⟨n, rfl⟩ : ∃ k, n = k + 1 := ⟨n - 1, by omega⟩
  obtain ⟨l1, e1, fl, l2, h2, e2, q⟩ := hstep w pick l c hw p
  rcases q with ⟨hp, rfl, rfl⟩ | ⟨k, pick', hk, rfl, rfl, p'⟩
  ·refine ⟨l2, ?_⟩
   rw [List.range'_succ, List.map_cons]
   unfold loopF
   rw [e1]
   simp only [bs]
   rw [e2, ((fin w hw).1 hp).2, ← hr]
   rfl
  ·obtain ⟨_, e, _⟩ := (fin w hw).2 k hk
   omega
 | succ m ih =>
  intro w pick l c n r hw hm p hn hr
  obtain ⟨n, rfl⟩ : ∃ k, n = k + 1 := ⟨n - 1, by omega⟩
  obtain ⟨l1, e1, fl, l2, h2, e2, q⟩ := hstep w pick l c hw p
  rcases q with ⟨hp, rfl, rfl⟩ | ⟨k, pick', hk, rfl, rfl, p'⟩
  ·have := ((fin w hw).1 hp).1
   omega
  ·obtain ⟨f1, f2, f3⟩ := (fin w hw).2 k hk
   obtain ⟨l', e3⟩ := ih (swapP st k w) pick' l2 (c + 1) n r f1 (by omega) p' (by omega) (by omega)
   refine ⟨l', ?_⟩
   rw [List.range'_succ, List.map_cons]
   unfold loopF
   rw [e1]
   simp only [bs]
   rw [e2]
   refine e3.trans ?_
   rw [f3]
theorem if_skip {t : TF} (e : t l h = some (false, h')) : ifF t f (fun loc H => some (.next, loc, H)) l h = some (.next, l, h') := if_false' e rfl
theorem last_run {i : Nat} {x : Option V} {R : FL → Loc → List AO → Prop} (e : f l h = some (.next, l.set i x, h')) (r : R .next (l.set i x) h') : Run (seqF f (fun loc H => some (.next, loc, H))) l h R := ⟨_, _, _, seq_next e rfl, r⟩
theorem uc8 {n : Nat} {w : List Bool} {P : Prop} (h : w.length = n + 1) (k : ∀ b t, w = b :: t → t.length = n → P) : P := by
 cases w with
 | nil => cases h
 | cons b t => exact k b t rfl (Nat.succ.inj h)
theorem len8 {w : List Bool} (h : w.length = 8) : ∃ b0 b1 b2 b3 b4 b5 b6 b7, w = [b0, b1, b2, b3, b4, b5, b6, b7] :=
 uc8 h fun b0 _ e0 h => uc8 h fun b1 _ e1 h => uc8 h fun b2 _ e2 h => uc8 h fun b3 _ e3 h => uc8 h fun b4 _ e4 h => uc8 h fun b5 _ e5 h => uc8 h fun b6 _ e6 h => uc8 h fun b7 t e7 h =>
  ⟨b0, b1, b2, b3, b4, b5, b6, b7, by rw [e0, e1, e2, e3, e4, e5, e6, e7, List.eq_nil_of_length_eq_zero h]⟩
theorem pairs {P : Nat → Nat → Prop} {a b : Nat} {L : List (Nat × Nat)} (m : List.elem (a, b) L = true) (h : L.foldr (fun p r => P p.1 p.2 ∧ r) True) : P a b := by
 replace m := List.mem_of_elem_eq_true m
 induction L with
 | nil => cases m
 | cons p L ih => cases m with
  | head => exact h.1
  | tail _ m => exact ih h.2 m
@[elab_as_elim] theorem st12 {P : Nat → Nat → Prop} (a b : Nat) (h2 : 2 ≤ a) (h4 : a ≤ 4) (hh : b ≤ a) (h : P 2 0 ∧ P 2 1 ∧ P 2 2 ∧ P 3 0 ∧ P 3 1 ∧ P 3 2 ∧ P 3 3 ∧ P 4 0 ∧ P 4 1 ∧ P 4 2 ∧ P 4 3 ∧ P 4 4 ∧ True) : P a b :=
 pairs ((by decide +kernel : ∀ a < 5, ∀ b < 5, 2 ≤ a → b ≤ a → List.elem (a, b) [(2, 0), (2, 1), (2, 2), (3, 0), (3, 1), (3, 2), (3, 3), (4, 0), (4, 1), (4, 2), (4, 3), (4, 4)] = true) a (Nat.lt_succ_of_le h4) b (Nat.lt_succ_of_le (Nat.le_trans hh h4)) h2 hh) h
@[elab_as_elim] theorem st9 {P : Nat → Nat → Prop} (a b : Nat) (h2 : 2 ≤ a) (h4 : a ≤ 4) (hh : b < a) (h : P 2 0 ∧ P 2 1 ∧ P 3 0 ∧ P 3 1 ∧ P 3 2 ∧ P 4 0 ∧ P 4 1 ∧ P 4 2 ∧ P 4 3 ∧ True) : P a b :=
 pairs ((by decide +kernel : ∀ a < 5, ∀ b < 5, 2 ≤ a → b < a → List.elem (a, b) [(2, 0), (2, 1), (3, 0), (3, 1), (3, 2), (4, 0), (4, 1), (4, 2), (4, 3)] = true) a (Nat.lt_succ_of_le h4) b (Nat.lt_of_lt_of_le hh (Nat.le_succ_of_le h4)) h2 hh) h
@[elab_as_elim] theorem st15 {P : Nat → Nat → Prop} (a b : Nat) (h2 : 2 ≤ a) (h4 : a ≤ 4) (hh : b < 8 - a) (h : P 2 0 ∧ P 2 1 ∧ P 2 2 ∧ P 2 3 ∧ P 2 4 ∧ P 2 5 ∧ P 3 0 ∧ P 3 1 ∧ P 3 2 ∧ P 3 3 ∧ P 3 4 ∧ P 4 0 ∧ P 4 1 ∧ P 4 2 ∧ P 4 3 ∧ True) : P a b :=
 pairs ((by decide +kernel : ∀ a < 5, ∀ b < 8, 2 ≤ a → b < 8 - a → List.elem (a, b) [(2, 0), (2, 1), (2, 2), (2, 3), (2, 4), (2, 5), (3, 0), (3, 1), (3, 2), (3, 3), (3, 4), (4, 0), (4, 1), (4, 2), (4, 3)] = true) a (Nat.lt_succ_of_le h4) b (Nat.lt_of_lt_of_le hh (Nat.sub_le _ _)) h2 hh) h
@[elab_as_elim] theorem st3 {P : Nat → Prop} (a : Nat) (h2 : 2 ≤ a) (h4 : a ≤ 4) (h : P 2 ∧ P 3 ∧ P 4) : P a :=
 st12 (P := fun a _ => P a) a a h2 h4 (Nat.le_refl a) ⟨h.1, h.1, h.1, h.2.1, h.2.1, h.2.1, h.2.1, h.2.2, h.2.2, h.2.2, h.2.2, h.2.2, trivial⟩
theorem le7 {P : Nat → Prop} (a : Nat) (h : a < 8) (k : P 0 ∧ P 1 ∧ P 2 ∧ P 3 ∧ P 4 ∧ P 5 ∧ P 6 ∧ P 7 ∧ True) : P a :=
 pairs (P := fun a _ => P a) (b := 0) ((by decide +kernel : ∀ a < 8, List.elem (a, 0) [(0, 0), (1, 0), (2, 0), (3, 0), (4, 0), (5, 0), (6, 0), (7, 0)] = true) a h) k
theorem strA_run {w : List Bool} (hw : w.length = 8) : strA 178 str152 [.ref 0] [accW w] = some (.str (strW w), [accW w]) := by
 obtain ⟨b0, b1, b2, b3, b4, b5, b6, b7, rfl⟩ := len8 hw
 kernel_rfl!
theorem ord_run (b : Bool) : ordF [.str (sgS b)] H = some (.int (cond b 98 97), H) := by cases b <;> kernel_rfl!
theorem gas_run {f : EF} {gf : GF} (e : f l h = some (v, h')) (e2 : gf v l = some l') : gasF f gf l h = some (.next, l', h') := by
 unfold gasF
 rw [e]
 simp only [bs, e2, ms]
theorem divmod_run {p : Int} {n : Nat} (h1 : 0 < n) (h2 : n < 1000) : divmodF [.int p, iN n] H = some (.tup [.int (p.fdiv n), .int (p.fmod n)], H) := by
 exact congrArg (Option.map (·, H)) (if_pos (by omega) : (if (n : Int) ≠ 0 ∧ (n : Int).natAbs < 1000000 then some (V.tup [.int (p.fdiv n), .int (p.fmod n)]) else none) = _)
theorem divmod_run' {p : Int} {n j : Nat} (h1 : 0 < n) (h2 : n < 1000) (h3 : p.fmod n = (j : Int)) : divmodF [.int p, iN n] H = some (.tup [.int (p.fdiv n), iN j], H) := by
 rw [divmod_run h1 h2, h3]
theorem fmod_nat (p : Int) {n : Nat} (h : 0 < n) : ∃ j, j < n ∧ p.fmod n = (j : Int) := by
 have h0 := Int.fmod_nonneg_of_pos p (show (0 : Int) < n by omega)
 have h1 := Int.fmod_lt_of_pos p (show (0 : Int) < n by omega)
 exact ⟨(p.fmod n).toNat, by omega, by omega⟩
theorem acc_low (w : List Bool) (m : Nat) : lowO m (accW w) = true := by
 unfold lowO
 simp [lowV]
theorem s249 {w : List Bool} {st : Nat} {pick : Int} (hw : w.length = 8) (h2 : 2 ≤ st) (h4 : st ≤ 4) (hm : invP st w < 10)
  (fin : ∀ w : List Bool, w.length = 8 → (placesP st w = [] → invP st w = 0 ∧ dueP st w = w) ∧ ∀ k ∈ placesP st w, (swapP st k w).length = 8 ∧ invP st (swapP st k w) + 1 = invP st w ∧ dueP st (swapP st k w) = dueP st w) :
  frameG F249 [signsV w, iN st, .int pick] H = some (.tup [.str (strW (dueP st w)), iN (invP st w)], H) := by
 have main : F249 [signsV w, iN st, .int pick] [] = some (.tup [.str (strW (dueP st w)), iN (invP st w)], [accW (dueP st w)]) := by
  unfold F249 P249
  dsimp only
  refine ret_body (ab := [(("signs" : Str), signsV w), (("step" : Str), iN st), (("pick" : Str), .int pick)]) (l0 := [some (signsV w), some (iN st), some (.int pick), none, none, none, none, none, none, none, none]) rfl rfl (ret_next (set_run (v := .ref 0) (h' := [accW []]) ?c1) (ret_loop (xs := w.map sgV) (h' := [accW []]) ?c2 ?c3))
  case c1 => kernel_rfl!
  case c2 => exact valQ_run rfl rfl
  case c3 =>
   have e0 : ∀ w : List Bool, (w.map sgV).flatMap (fun x => [V.tup [.str " ", x]]) = w.map pcV := fun w => by
    induction w with
    | nil => rfl
    | cons b w ih => rw [List.map_cons, List.flatMap_cons, ih]; rfl
   refine app_ret (s := []) (fun x => [.tup [.str " ", x]]) (fun s => [accA s (.int 0)]) (fun l => ∃ a, l = [some (signsV w), some (iN st), some (.int pick), some (.ref 0), a, none, none, none, none, none, none]) (fun _ => True) 1000 rfl ?st (fun _ _ _ _ => trivial) (fun _ _ => trivial) ⟨_, rfl⟩ ?hn ?k
   case st =>
    intro x hx s l ⟨a, hl⟩ _ hn
    subst hl
    simp only [List.length_singleton] at hn
    exact ⟨_, _, rfl, seq_next (if_false' (test_run (bin_run (meth_run (a := .ref 0) (h1 := [accA s (.int 0)]) rfl (inst_acc rfl _ (by rfl)) (cons_run rfl (cons_run (a := x) rfl rfl)) (push_run (i := 0) (xs := s) rfl (by omega))) rfl (p2_run (v := .bool false) rfl)) rfl) rfl) rfl, _, rfl⟩
   case hn =>
    show 0 + _ ≤ _
    rw [e0, List.length_map]
    omega
   case k =>
    intro l' hl
    obtain ⟨a, rfl⟩ := hl
    rw [e0, List.nil_append]
    obtain ⟨w0, hw0', hw0⟩ : ∃ w0, w0 = w ∧ w0.length = 8 := ⟨w, rfl, hw⟩
    rw [show signsV w = signsV w0 by rw [hw0']]
    refine ret_loopR (xs := (List.range' 0 10).map iN) (h' := [accW w]) ?q1 ?q2
    case q1 => exact rngQ_run (cons_run (bin_run (call_run (cons_run (a := signsV w0) rfl rfl) (len_lst (by rw [List.length_map]; omega))) rfl (p2_run (v := iN 10) (by rw [List.length_map, hw0]; rfl))) rfl) (by kernel_rfl!)
    case q2 =>
     refine iter249 (st := st) (P := fun pick l => ∃ a4 a5 a6 a7 a8 a9 a10, l = [some (signsV w0), some (iN st), some (.int pick), some (.ref 0), a4, a5, a6, a7, a8, a9, a10]) ?hstep fin (invP st w) w pick _ 0 10 (invP st w) hw rfl ⟨_, _, _, _, _, _, _, rfl⟩ hm (Nat.zero_add _)
     intro w pick l c hw ⟨a4, a5, a6, a7, a8, a9, a10, hl⟩
     subst hl
     refine ⟨_, rfl, ?_⟩
     simp only [List.set_cons_succ, List.set_cons_zero]
     have hc8 : ∀ ys : List V, ([accW w] ++ [AO.list ys])[0]? = some (accA (w.map pcV) (.int 0)) := fun ys => rfl
     have hk8 : ∀ k, k < 8 → (w.map pcV)[k]? = some (pcV (w.getD k false)) := fun k hk => by
      rw [List.getElem?_map, List.getD_eq_getElem?_getD, List.getElem?_eq_getElem (by omega)]; rfl
     have hrg : ∀ h : List AO, ∀ a5, rngQ (consF (binF (callF (consF (fun loc H => Option.map (fun x => (x, H)) loc[0]?.join) fun x H => some ([], H)) lenF) (fun loc H => Option.map (fun x => (x, H)) loc[1]?.join) (pure2 subV)) fun x H => some ([], H)) (some (signsV w0) :: some (iN st) :: a5) h = some ((List.range (8 - st)).map iN, h) := fun h a5 =>
      rngQ_run (cons_run (bin_run (call_run (cons_run (a := signsV w0) rfl rfl) (len_lst (by rw [List.length_map]; omega))) rfl (p2_run (v := iN (8 - st)) (by
       show some (V.int _) = some (V.int _)
       rw [List.length_map, hw0]
       congr 2
       omega))) rfl) (rng_nat (by omega))
     let told : List Int := (List.range (8 - st)).map fun k => cmpB (w.getD k false) (w.getD (k + st) false)
     have htl : told.length = 8 - st := by simp [told]
     refine run_next (set_run (v := .lst (told.map V.int)) (h' := [accW w]) ?s1) ?_
     case s1 =>
      refine (comp1 (H := [accW w]) (xs := (List.range (8 - st)).map iN) (fun _ => true) (fun v => .int (cmpB (w.getD (natV v) false) (w.getD (natV v + st) false))) (hrg _ _) (fun _ _ _ => rfl) ?_ (fun _ _ _ => rfl) (by simp; omega) ?_).trans ?_
      ·intro x hx _ ys
       obtain ⟨k, hk, rfl⟩ := List.mem_map.mp hx
       have hk := List.mem_range.mp hk
       exact call_run (cons_run (bin_run rfl rfl (idxA_run (hc8 ys) (by omega) (hk8 k (by omega)))) (cons_run (bin_run rfl (bin_run rfl rfl (p2_run (v := iN (k + st)) rfl)) (idxA_run (hc8 ys) (by omega) (hk8 (k + st) (by omega)))) rfl)) (cmp_run _ _)
      ·simp only [List.all_cons, List.all_nil, acc_low, Bool.and_true]
      ·rw [filter_nats (q := fun _ => true) (h := fun k => .int (cmpB (w.getD k false) (w.getD (k + st) false)))]
       rw [List.filter_eq_self.mpr fun _ _ => rfl]
       simp only [told, List.map_map]
       rfl
     refine run_next (h' := [accW w]) (if_skip (test_run (h1 := [accW w]) (bin_run (b := .lst (told.map V.int)) (h1 := [accW w]) (h2 := [accW w]) rfl ?s2 (ne_self (okD_ints _ _))) rfl)) ?_
     case s2 =>
      refine (comp1 (H := [accW w]) (xs := (List.range (8 - st)).map iN) (fun _ => true) (fun v => .int (cmpB (w.getD (natV v) false) (w.getD (natV v + st) false))) (hrg _ _) (fun _ _ _ => rfl) ?_ (fun _ _ _ => rfl) (by simp; omega) ?_).trans ?_
      ·intro x hx _ ys
       obtain ⟨k, hk, rfl⟩ := List.mem_map.mp hx
       have hk := List.mem_range.mp hk
       exact bin_run (call_run (cons_run (bin_run (bin_run rfl rfl (idxA_run (hc8 ys) (by omega) (hk8 k (by omega)))) rfl rfl) rfl) (ord_run _)) (call_run (cons_run (bin_run (bin_run rfl (bin_run rfl rfl (p2_run (v := iN (k + st)) rfl)) (idxA_run (hc8 ys) (by omega) (hk8 (k + st) (by omega)))) rfl rfl) rfl) (ord_run _)) (p2_run (by
        simp only [natV_iN]
        cases w.getD k false <;> cases w.getD (k + st) false <;> rfl))
      ·simp only [List.all_cons, List.all_nil, acc_low, Bool.and_true]
      ·rw [filter_nats (q := fun _ => true) (h := fun k => .int (cmpB (w.getD k false) (w.getD (k + st) false)))]
       rw [List.filter_eq_self.mpr fun _ _ => rfl]
       simp only [told, List.map_map]
       rfl
     refine run_next (h' := [accW w]) (if_skip (test_run (h1 := [accW w]) (bin_run (a := .lst []) (b := .lst []) (h1 := [accW w]) (h2 := [accW w]) ?s3 rfl (ne_self rfl)) rfl)) ?_
     case s3 =>
      refine (comp1 (H := [accW w]) (xs := told.map V.int) (fun _ => false) (fun v => v) (valQ_run rfl rfl) ?_ (fun _ _ e => by cases e) (fun _ _ e => by cases e) (by rw [List.length_map, htl]; omega) ?_).trans ?_
      ·intro x hx ys
       obtain ⟨i, _, rfl⟩ := List.mem_map.mp hx
       exact test_run (bin_run (call_run (cons_run rfl rfl) rfl) rfl (p2_run (v := .bool false) (by kernel_rfl!))) rfl
      ·simp only [List.all_cons, List.all_nil, acc_low, Bool.and_true]
      ·rw [List.filter_eq_nil_iff.mpr (fun _ _ => nf)]
       rfl
     refine run_next (set_run (v := natsV (placesP st w)) (h' := [accW w]) ?s4) ?_
     case s4 =>
      refine (comp1 (H := [accW w]) (xs := (List.range (8 - st)).map iN) (fun v => cmpB (w.getD (natV v) false) (w.getD (natV v + st) false) == -1) (fun v => v) ?_ ?_ (fun _ _ _ _ => rfl) ?_ (by simp; omega) ?_).trans ?_
      ·exact rngQ_run (cons_run (call_run (cons_run (a := .lst (told.map V.int)) rfl rfl) (len_lst (by rw [List.length_map, htl]; omega))) rfl) (by rw [List.length_map, htl]; exact rng_nat (by omega))
      ·intro x hx ys
       obtain ⟨k, hk, rfl⟩ := List.mem_map.mp hx
       have hk := List.mem_range.mp hk
       exact test_run (bin_run (bin_run rfl rfl (idx_lst (xs := told.map V.int) (v := .int (cmpB (w.getD k false) (w.getD (k + st) false))) (by omega) (by simp [told, hk]))) rfl (eq_int _ _)) rfl
      ·intro x hx _
       obtain ⟨k, hk, rfl⟩ := List.mem_map.mp hx
       rfl
      ·simp only [List.all_cons, List.all_nil, acc_low, Bool.and_true]
      ·rw [List.filter_map, List.map_id']
       unfold placesP natsV
       rw [hw]
       rfl
     have hpl : (placesP st w).length ≤ 8 := by
      unfold placesP
      exact Nat.le_trans (List.length_filter_le _ _) (by rw [List.length_range]; omega)
     by_cases hp : placesP st w = []
     ·refine ⟨.ret (.tup [.str (strW w), iN c]), _, [accW w], seq_ret (if_true' (h' := [accW w]) (test_run (h1 := [accW w]) (bin_run (h1 := [accW w]) (h2 := [accW w]) rfl rfl (eq_nil _)) (by rw [hp]; rfl)) (seq_ret (ret_run (tup2_run (call_run (cons_run (a := .ref 0) rfl rfl) (strA_run hw)) rfl)))), .inl ⟨hp, rfl, rfl⟩⟩
     ·have hn : 0 < (placesP st w).length := List.length_pos_iff.mpr hp
      obtain ⟨j, hj, hj2⟩ := fmod_nat pick hn
      refine run_next (h' := [accW w]) (if_skip (test_run (h1 := [accW w]) (bin_run (h1 := [accW w]) (h2 := [accW w]) rfl rfl (eq_nil _)) (by
       cases q : placesP st w with
       | nil => exact absurd q hp
       | cons x xs => rfl))) ?_
      refine run_next (h' := [accW w]) (gas_run (v := .tup [.int (pick.fdiv (placesP st w).length), iN j]) (call_run (cons_run rfl (cons_run (call_run (cons_run (a := natsV (placesP st w)) rfl rfl) (len_lst (by rw [List.length_map]; omega))) rfl)) (by rw [List.length_map]; exact divmod_run' hn (by omega) hj2)) rfl) ?_
      obtain ⟨k, hk⟩ : ∃ k, (placesP st w)[j]? = some k := ⟨_, List.getElem?_eq_getElem hj⟩
      have hkm := List.mem_of_getElem? hk
      have hkl : k < 8 - st := by
       unfold placesP at hkm
       have := List.mem_range.mp (List.mem_filter.mp hkm).1
       omega
      refine run_next (h' := [accA ((w.map pcV).take k) (.int 0)]) (set_run (v := .lst ((w.map pcV).drop k)) (meth_run (a := .ref 0) (h1 := [accW w]) rfl (inst_acc rfl _ (by rfl)) (cons_run (a := iN k) (bin_run (a := natsV (placesP st w)) (b := iN j) (h1 := [accW w]) (h2 := [accW w]) rfl rfl (idx_lst (by omega) (by rw [List.getElem?_map, hk]; rfl))) rfl) (pop_run (i := 0) rfl (by rw [List.length_map]; omega) (by rw [List.length_map]; omega)))) ?_
      generalize natsV (placesP st w) = pls
      generalize V.lst (told.map V.int) = tls
      clear told htl hk8 hc8 hp hpl hn hk hj hj2 hrg
      simp only [List.set_cons_succ, List.set_cons_zero]
      refine last_run (i := 10) (x := some (pcV ((swapP st k w).getD 7 false))) (h' := [accW (swapP st k w)]) ?_ (.inr ⟨k, _, hkm, rfl, rfl, _, _, _, _, _, _, _, rfl⟩)
      clear hkm hw0' fin
      obtain ⟨b0, b1, b2, b3, b4, b5, b6, b7, rfl⟩ := len8 hw
      generalize signsV w0 = sg0
      clear hw hw0
      refine st15 st k h2 h4 hkl ⟨?_, ?_, ?_, ?_, ?_, ?_, ?_, ?_, ?_, ?_, ?_, ?_, ?_, ?_, ?_, trivial⟩ <;> kernel_rfl!
 unfold frameG
 rw [if_pos (by
  have := low_signs w
  simp only [List.all_cons, List.all_nil, Bool.and_true] at this ⊢
  rw [this]; rfl)]
 unfold frzG
 rw [main]
 simp only [bs]
 rfl
end
end
end
section
section
noncomputable def pieceS (n : Nat) : Str × Str := (Txt.mul " " ((n / 2 : Nat) : Int), Txt.mul "x" ((n - n / 2 : Nat) : Int))
noncomputable abbrev pieceV (n : Nat) : V := .tup [.str (pieceS n).1, .str (pieceS n).2]
noncomputable def rowL : List Bool → List Nat
 | [] => []
 | b :: r => 32 :: cond b 97 98 :: cond b 98 97 :: rowL r
noncomputable def rowS (r : List Bool) : Str := ⟨(rowL r).toArray⟩
noncomputable def endsP (m : Bool) : Nat → List (List Bool) → List Nat
 | _, [] => []
 | c, r :: R => if r.getLast? == some m then (c + r.length - 1) :: endsP m (c + r.length) R else endsP m (c + r.length) R
noncomputable def copiedP : List Nat → List Nat
 | [] => []
 | x :: l => List.replicate (3 - x % 2) x ++ copiedP l
theorem rowL_len : ∀ r, (rowL r).length = 3 * r.length
 | [] => rfl
 | b :: r => by simp only [rowL, List.length_cons, rowL_len r]; omega
theorem rowL_last : ∀ (r : List Bool) (b : Bool), r.getLast? = some b → (rowL r)[3 * r.length - 1]? = some (cond b 98 97)
 | [], _, h => by cases h
 | [a], b, h => by cases h; rfl
 | a :: c :: r, b, h => by
  have ih := rowL_last (c :: r) b (by simpa using h)
  have e : 3 * (a :: c :: r).length - 1 = (3 * (c :: r).length - 1) + 3 := by simp only [List.length_cons]; omega
  rw [e]
  show (32 :: cond a 97 98 :: cond a 98 97 :: rowL (c :: r))[(3 * (c :: r).length - 1) + 3]? = _
  simp only [List.getElem?_cons_succ]
  exact ih
section
variable {loc : Loc} {H H' : List AO}
theorem fdiv_nat (n m : Nat) (h : 0 < m) (h2 : m < 1000) : fdivV (iN n) (iN m) = some (iN (n / m)) := by
 show (if (0 : Int) < (m : Int) ∧ (m : Int) < 2 ^ 29 then some (V.int ((n : Int).fdiv m)) else none) = _
 rw [if_pos ⟨by omega, by have : ((2 : Int) ^ 29) = 536870912 := (by decide); omega⟩]
 congr 2
 rw [Int.fdiv_eq_ediv_of_nonneg _ (by omega)]
 rfl
theorem fmod_natV (n m : Nat) (h : 0 < m) (h2 : m < 1000) : fmodV (iN n) (iN m) = some (iN (n % m)) := by
 show (if (0 : Int) < (m : Int) ∧ (m : Int) < 2 ^ 40 then some (V.int ((n : Int).fmod m)) else none) = _
 rw [if_pos ⟨by omega, by have : ((2 : Int) ^ 40) = 1099511627776 := (by decide); omega⟩]
 congr 2
 rw [Int.fmod_eq_emod_of_nonneg _ (by omega)]
 rfl
theorem sub_nat {n m : Nat} (h : m ≤ n) : subV (iN n) (iN m) = some (iN (n - m)) := by
 show some (V.int _) = some (V.int _)
 congr 2
 omega
theorem mul_str {x : Str} {n : Nat} (hx : x.length ≤ 100) (h : n ≤ 1000) : mulV (.str x) (iN n) = some (.str (Txt.mul x (n : Int))) := by
 show (if (0 : Int) ≤ (n : Int) ∧ (n : Int) ≤ 1000 ∧ x.length ≤ 100 then some (V.str (Txt.mul x (n : Int))) else none) = _
 rw [if_pos ⟨by omega, by omega, hx⟩]
theorem s210 {n : Nat} (hn : n ≤ 1000) : F210 [iN n] H = some (pieceV n, H) := by
 unfold F210 P210
 dsimp only
 exact ret_body (ab := [(("size" : Str), iN n)]) (l0 := [some (iN n)]) rfl rfl (ret_now (ret_run (tup2_run (bin_run rfl (bin_run rfl rfl (p2_run (fdiv_nat n 2 (by decide) (by decide)))) (p2_run (mul_str (by decide) (by omega)))) (bin_run rfl (bin_run (b := iN (n / 2)) rfl (bin_run rfl rfl (p2_run (fdiv_nat n 2 (by decide) (by decide)))) (p2_run (sub_nat (by omega)))) (p2_run (mul_str (by decide) (by omega)))))))
theorem orl {α : Type} {o p : Option α} {r : α} (h : o = some r) : o.or p = some r := by rw [h]; rfl
theorem len_str {x : Str} (h : x.length ≤ 1000) : lenF [.str x] H = some (iN x.length, H) := by
 exact congrArg (Option.map (·, H)) (orl (if_pos (Nat.le_trans h (by decide)) : (if x.length ≤ 1000000 then some (V.int x.length) else none) = _))
theorem idx_last {x : Str} {c : Nat} (h : 0 < x.cps.size) (e : x.cps.toList[x.cps.size - 1]? = some c) : idxF H (.str x) (.int (-1)) = some (.str ⟨#[c]⟩, H) := by
 show (if small (-1) then ((seqIndex? (-1) x.length).bind fun j => x.cps[j]?).map fun c => (V.str ⟨#[c]⟩, H) else none) = _
 rw [if_pos (by decide)]
 have e1 : seqIndex? (-1) x.length = some (x.cps.size - 1) := by
  unfold seqIndex? Str.length
  have h0 : ((-1 : Int) < 0) := by decide
  have h1 : (decide (0 ≤ (-1 : Int) + (x.cps.size : Int)) && decide ((-1 : Int) + (x.cps.size : Int) < (x.cps.size : Int))) = true := by
   rw [Bool.and_eq_true, decide_eq_true_eq, decide_eq_true_eq]; omega
  simp only [if_pos h0]
  rw [if_pos h1]
  congr 1
  omega
 rw [e1]
 simp only [bs]
 rw [← Array.getElem?_toList, e, ms]
theorem eq_sg2 (a b : Bool) : eqF H (.str ⟨#[cond a 98 97]⟩) (sgV b) = some (.bool (a == b), H) := by cases a <;> cases b <;> kernel_rfl!
theorem app_s {s : List V} {x : V} (hl : s.length ≤ 1000) : appF [.ref 0, x] [.list s] = some (.none, [.list (s ++ [x])]) := app_run rfl hl
theorem to_ret {α : Type} {P : α → Loc → Prop} {g : SF} {h2 : List AO} {v : V} {X : Option (FL × Loc × List AO)} (e : ∃ l' c', X = (fun loc H => some (FL.next, loc, H)) l' h2 ∧ P c' l') (k : ∀ l' c', P c' l' → Ret g l' h2 v H') : ∃ l2 h2, X = some (.next, l2, h2) ∧ Ret g l2 h2 v H' := by
 obtain ⟨l', c', e, p⟩ := e
 exact ⟨l', h2, e, k l' c' p⟩
theorem aug_run {i : Nat} {f : EF} {op} {l : Loc} {h h1 h2 : List AO} {a b v : V} (e0 : l[i]?.join = some a) (e1 : f l h = some (b, h1)) (e2 : op h1 a b = some (v, h2)) : augF i f op l h = some (.next, l.set i (some v), h2) := by
 unfold augF
 simp only [e0, bs, e1, e2, ms]
theorem ends_loop {tf : GF} {B Z : SF} {P : Nat → Loc → Prop} {m : Bool} (st : ∀ (r : List Bool) (c : Nat) (s : List V) (l : Loc), 0 < r.length → r.length ≤ 100 → s.length ≤ 900 → P c l →
   ∃ l1 l2, tf (.str (rowS r)) l = some l1 ∧ B l1 [.list s] = some (.next, l2, [.list (s ++ (if r.getLast? == some m then [iN (c + r.length - 1)] else []))]) ∧ P (c + r.length) l2) :
  ∀ (R : List (List Bool)) (c : Nat) (s : List V) (l : Loc), (∀ r ∈ R, 0 < r.length ∧ r.length ≤ 100) → s.length + R.length ≤ 900 → P c l → ∃ l' c', loopF tf B Z (R.map fun r => .str (rowS r)) l [.list s] = Z l' [.list (s ++ (endsP m c R).map iN)] ∧ P c' l'
 | [], c, s, l, _, _, p => ⟨l, c, by simp [loopF, loopK, endsP], p⟩
 | r :: R, c, s, l, hr, hn, p => by
  simp only [List.length_cons] at hn
  obtain ⟨l1, l2, e1, e2, p2⟩ := st r c s l (hr r (.head _)).1 (hr r (.head _)).2 (by omega) p
  obtain ⟨l', c', e3, p3⟩ := ends_loop (Z := Z) st R (c + r.length) (s ++ (if r.getLast? == some m then [iN (c + r.length - 1)] else [])) l2 (fun x hx => hr x (.tail _ hx)) (by
   rw [List.length_append]
   split <;> simp <;> omega) p2
  refine ⟨l', c', ?_, p3⟩
  rw [List.map_cons]
  unfold loopF
  rw [e1]
  simp only [bs]
  rw [e2]
  refine e3.trans ?_
  rw [List.append_assoc]
  rw [endsP]
  split <;> rename_i q <;> simp [q]
theorem s224 {R : List (List Bool)} {m : Bool} (hR : R.length ≤ 100) (hr : ∀ r ∈ R, 0 < r.length ∧ r.length ≤ 100) : frameG F224 [.lst (R.map fun r => .str (rowS r)), sgV m] H = some (natsV (endsP m 0 R), H) := by
 refine frame_ref ?_ ?_ (low_nats _ 6)
 ·unfold F224 P224
  dsimp only
  refine ret_body (ab := [(("rows" : Str), .lst (R.map fun r => .str (rowS r))), (("mark" : Str), sgV m)]) (l0 := [some (.lst (R.map fun r => .str (rowS r))), some (sgV m), none, none, none]) rfl rfl (ret_next (set_run (v := .ref 0) (h' := [.list []]) rfl) (ret_next (set_run (v := iN 0) (h' := [.list []]) rfl) (ret_loop (xs := R.map fun r => .str (rowS r)) (h' := [.list []]) (valQ_run rfl rfl) ?lp)))
  case lp =>
   simp only [List.set_cons_succ, List.set_cons_zero]
   generalize V.lst (R.map fun r => V.str (rowS r)) = X
   refine to_ret (ends_loop (m := m) (P := fun c l => ∃ a, l = [some X, some (sgV m), some (.ref 0), some (iN c), a]) ?st R 0 [] _ hr (by simpa using (by omega : R.length ≤ 900)) ⟨_, rfl⟩) ?fin
   case st =>
    intro r c s l h1 h2 hs ⟨a, hl⟩
    subst hl
    have hc : (rowS r).cps.toList = rowL r := rfl
    have hsz : (rowS r).cps.size = 3 * r.length := rowL_len r
    refine ⟨_, _, rfl, seq_next (l' := [some X, some (sgV m), some (.ref 0), some (iN (c + r.length)), some (.str (rowS r))]) (h' := [.list s]) ?aug ?rest, some (.str (rowS r)), rfl⟩
    case aug => exact aug_run (a := iN c) rfl (bin_run (call_run (cons_run (a := .str (rowS r)) rfl rfl) (len_str (by rw [Str.length, hsz]; omega))) rfl (p2_run (fdiv_nat _ 3 (by decide) (by decide)))) (p2_run (by
     rw [Str.length, hsz, Nat.mul_div_cancel_left _ (by decide)]
     rfl))
    case rest =>
     obtain ⟨b, hb⟩ : ∃ b, r.getLast? = some b := by
      cases q : r.getLast? with
      | none => rw [List.getLast?_eq_none_iff.mp q] at h1; cases h1
      | some b => exact ⟨b, rfl⟩
     have hi : idxF [AO.list s] (.str (rowS r)) (.int (-1)) = some (.str ⟨#[cond b 98 97]⟩, [AO.list s]) := idx_last (by omega) (by rw [hsz, hc]; exact rowL_last r b hb)
     have he : (r.getLast? == some m) = (b == m) := by rw [hb]; rfl
     rw [he]
     cases q : b == m with
     | true => exact seq_next (h' := [.list (s ++ [iN (c + r.length - 1)])]) (if_true' (h' := [.list s]) (test_run (h1 := [.list s]) (bin_run (bin_run (a := .str (rowS r)) (b := .int (-1)) (h2 := [.list s]) rfl rfl hi) rfl (eq_sg2 b m)) (by rw [q]; rfl)) (seq_next (expr_run (v := .none) (meth_run (a := .ref 0) (h1 := [.list s]) rfl rfl (cons_run (bin_run (a := iN (c + r.length)) (b := iN 1) (h2 := [.list s]) rfl rfl (p2_run (sub_nat (by omega)))) rfl) (app_s (by omega)))) rfl)) rfl
     | false => exact seq_next (h' := [.list s]) (if_false' (h' := [.list s]) (test_run (h1 := [.list s]) (bin_run (bin_run (a := .str (rowS r)) (b := .int (-1)) (h2 := [.list s]) rfl rfl hi) rfl (eq_sg2 b m)) (by rw [q]; rfl)) rfl) (by simp)
   case fin =>
    intro l' c' ⟨a, hl⟩
    subst hl
    exact ret_now (ret_run rfl)
 ·have e : (R.map fun r => V.str (rowS r)).all (lowV 0 7) = true := by
   rw [List.all_map]
   exact List.all_eq_true.mpr fun _ _ => rfl
  show ((R.map fun r => V.str (rowS r)).all (lowV 0 7) && ([sgV m].all (lowV 0 8))) = true
  rw [e]
  rfl
end
end
end
section
section
noncomputable def cutB (st : Nat) : Nat → List Bool → List (List Bool)
 | 0, _ => []
 | _ + 1, [] => []
 | n + 1, b :: w => (b :: w).take st :: cutB st n ((b :: w).drop st)
noncomputable def rowsW (st hd : Nat) (w : List Bool) : List (List Bool) := w.take (st - hd) :: cutB st 8 (w.drop (st - hd))
noncomputable def colP (st hd : Nat) (w : List Bool) (c : Nat) : List Bool := (List.range w.length).flatMap fun p => cond (Nat.beq ((p + hd) % st) c) [w.getD p false] []
noncomputable def colsP (st hd : Nat) (w : List Bool) : List (List Bool) := (List.range st).map (colP st hd w)
section
variable {loc : Loc} {H H' : List AO}
theorem copied_len : ∀ l : List Nat, (copiedP l).length ≤ 3 * l.length
 | [] => Nat.le_refl _
 | x :: l => by
  have := copied_len l
  simp only [copiedP, List.length_append, List.length_replicate, List.length_cons]
  omega
theorem copied_eq : ∀ l : List Nat, ((l.map iN).flatMap fun x => ((List.range (3 - natV x % 2)).map iN).map fun _ => x) = (copiedP l).map iN
 | [] => rfl
 | x :: l => by
  rw [List.map_cons, List.flatMap_cons, copied_eq l, copiedP, List.map_append, natV_iN]
  congr 1
  rw [List.map_map, List.map_replicate]
  refine List.ext_getElem (by simp) fun i h1 h2 => ?_
  simp
theorem s229 {w : List Bool} {st hd : Nat} (hw : w.length = 8) (h2 : 2 ≤ st) (h4 : st ≤ 4) (hh : hd ≤ st) : frameG F229 [.lst ((rowsW st hd w).map fun r => .str (rowS r)), iN hd, iN st] H = some (.lst ((colsP st hd w).map signsV), H) := by
 obtain ⟨b0, b1, b2, b3, b4, b5, b6, b7, rfl⟩ := len8 hw
 refine st12 st hd h2 h4 hh ⟨?_, ?_, ?_, ?_, ?_, ?_, ?_, ?_, ?_, ?_, ?_, ?_, trivial⟩ <;> kernel_rfl!
theorem s239 {a : V} {l : List Nat} (ha : itemsV a = some (l.map iN)) (hl : l.length ≤ 100) (hH : H.all (lowO H.length) = true) : F239 [a] H = some (.lst ((copiedP l).map iN), H) := by
 unfold F239 P239
 dsimp only
 refine ret_body (ab := [(("row" : Str), a)]) (l0 := [some a]) rfl rfl (ret_now (ret_run ?c))
 refine (comp2 (H := H) (xs := l.map iN) (fun x => (List.range (3 - natV x % 2)).map iN) (fun x _ => x) (valQ_run rfl ha) ?_ ?_ ?_ ?_ hH).trans ?_
 ·intro x hx l1 ys
  obtain ⟨k, hk, rfl⟩ := List.mem_map.mp hx
  exact rngQ_run (cons_run (bin_run rfl (bin_run rfl rfl (p2_run (fmod_natV k 2 (by decide) (by decide)))) (p2_run (sub_nat (n := 3) (by omega)))) rfl) (rng_nat (by omega))
 ·intro x _ z _ ys
  rfl
 ·intro x hx z _
  obtain ⟨k, hk, rfl⟩ := List.mem_map.mp hx
  rfl
 ·rw [copied_eq, List.length_map]
  have := copied_len l
  omega
 ·rw [copied_eq]
end
end
end
section
section
noncomputable def posP (v : Bool) : Nat → List Bool → List Nat
 | _, [] => []
 | q, b :: w => if b == v then q :: posP v (q + 1) w else posP v (q + 1) w
noncomputable def missP (p : List Bool) : List Nat := (posP false 0 p).reverse.map (p.length - ·)
noncomputable def numsP (p : List Bool) : List Nat := copiedP ((List.range p.length).map (1 + ·))
noncomputable def waysP (p : List Bool) : List Nat := copiedP ((posP true 0 p ++ [p.length]).reverse.map (p.length - ·) ++ [p.length + 1])
noncomputable def beyP (q : Nat) : List Nat := if q = 0 then copiedP [0, 1] else 0 :: copiedP [q + 1]
noncomputable def itemsW : Nat → Nat → List Bool → List V
 | _, _, [] => []
 | k, q, false :: r => itemsW k (q + 1) r
 | k, q, true :: r => .tup [iN k, iN q] :: itemsW (k + 1) (q + 1) r
theorem posP_append (v : Bool) : ∀ (a b : List Bool) (q : Nat), posP v q (a ++ b) = posP v q a ++ posP v (q + a.length) b
 | [], b, q => rfl
 | x :: a, b, q => by
  rw [List.cons_append, posP, posP, posP_append v a b (q + 1), List.length_cons, show q + 1 + a.length = q + (a.length + 1) by omega]
  split <;> simp
theorem posP_mem (v : Bool) : ∀ (a : List Bool) (q x : Nat), x ∈ posP v q a → q ≤ x ∧ x < q + a.length
 | [], _, _, h => by cases h
 | b :: a, q, x, h => by
  rw [posP] at h
  simp only [List.length_cons]
  split at h
  ·rcases List.mem_cons.mp h with rfl | h
   ·omega
   ·have := posP_mem v a (q + 1) x h; omega
  ·have := posP_mem v a (q + 1) x h; omega
theorem posP_len (v : Bool) : ∀ (a : List Bool) (q : Nat), (posP v q a).length ≤ a.length
 | [], _ => Nat.le_refl _
 | b :: a, q => by
  have := posP_len v a (q + 1)
  rw [posP]
  split <;> simp only [List.length_cons] <;> omega
theorem items_eq : ∀ (r : List Bool) (k q : Nat), ((posP true q r).map iN).mapIdx (fun i x => V.tup [iN (k + i), x]) = itemsW k q r
 | [], _, _ => rfl
 | false :: r, k, q => by
  rw [itemsW, ← items_eq r k (q + 1)]
  rfl
 | true :: r, k, q => by
  rw [itemsW, ← items_eq r (k + 1) (q + 1)]
  have e : posP true q (true :: r) = q :: posP true (q + 1) r := rfl
  rw [e, List.map_cons, List.mapIdx_cons]
  congr 1
  refine congrFun (congrArg _ (funext fun i => funext fun x => ?_)) _
  show V.tup [iN (k + (i + 1)), x] = V.tup [iN (k + 1 + i), x]
  rw [show k + (i + 1) = k + 1 + i by omega]
section
variable {loc : Loc} {H H' : List AO}
theorem loop244 {tf : GF} {B Z : SF} {P : Loc → Prop} {w : List Bool} {S : List Bool → List AO}
  (st : ∀ p r l, w = p ++ true :: r → P l → ∃ l1 l2, tf (.tup [iN (posP true 0 p).length, iN p.length]) l = some l1 ∧ B l1 (S p) = some (.next, l2, S (p ++ [true])) ∧ P l2)
  (sf : ∀ p r, w = p ++ false :: r → S (p ++ [false]) = S p) :
  ∀ (r p : List Bool) (l : Loc), w = p ++ r → P l → ∃ l', loopF tf B Z (itemsW (posP true 0 p).length p.length r) l (S p) = Z l' (S w) ∧ P l'
 | [], p, l, e, hp => ⟨l, by rw [e, List.append_nil]; rfl, hp⟩
 | false :: r, p, l, e, hp => by
  obtain ⟨l', e3, p3⟩ := loop244 (Z := Z) st sf r (p ++ [false]) l (by rw [e]; simp) hp
  refine ⟨l', ?_, p3⟩
  have e1 : (posP true 0 (p ++ [false])).length = (posP true 0 p).length := by rw [posP_append]; simp [posP]
  rw [e1, sf p r e, List.length_append] at e3
  exact e3
 | true :: r, p, l, e, hp => by
  obtain ⟨l1, l2, q1, q2, p2⟩ := st p r l e hp
  obtain ⟨l', e3, p3⟩ := loop244 (Z := Z) st sf r (p ++ [true]) l2 (by rw [e]; simp) p2
  refine ⟨l', ?_, p3⟩
  have e1 : (posP true 0 (p ++ [true])).length = (posP true 0 p).length + 1 := by rw [posP_append]; simp [posP]
  rw [e1, List.length_append] at e3
  rw [itemsW]
  unfold loopF
  rw [q1]
  simp only [bs]
  rw [q2]
  exact e3
theorem lt_nat (a b : Nat) : ltV (iN a) (iN b) = some (.bool (Nat.blt a b)) := by
 show some (V.bool (decide ((a : Int) < (b : Int)))) = _
 congr 2
 by_cases h : a < b
 ·rw [decide_eq_true (by omega)]; exact (Nat.ble_eq.mpr h).symm
 ·rw [decide_eq_false (by omega)]
  exact (Bool.eq_false_iff.mpr fun q => h (Nat.ble_eq.mp q)).symm
theorem ints_low (l : List Nat) (m : Nat) : [AO.list (l.map iN)].all (lowO m) = true := by
 show ((l.map iN).all (lowV m 8) && true) = true
 rw [List.all_map, show l.all (lowV m 8 ∘ iN) = true from List.all_eq_true.mpr fun _ _ => rfl]
 rfl
theorem okD_nats (l : List Nat) (k : Nat) : okD (k + 2) (natsV l) = true := by
 show (l.map iN).all (okD (k + 1)) = true
 rw [List.all_map]
 exact List.all_eq_true.mpr fun _ _ => rfl
theorem add_lst {xs ys : List V} (h : xs.length + ys.length ≤ 1000) : addV (.lst xs) (.lst ys) = some (.lst (xs ++ ys)) := by
 show (if xs.length + ys.length ≤ 1000 then some (V.lst (xs ++ ys)) else none) = _
 rw [if_pos h]
theorem add_nat (a b : Nat) : addV (iN a) (iN b) = some (iN (a + b)) := rfl
theorem lst1_run {f : EF} {l : Loc} {v : V} (e : f l H = some (v, H)) : lstF (consF f fun _ H => some ([], H)) l H = some (.lst [v], H) := by
 unfold lstF
 rw [cons_run e rfl]
 rfl
theorem ext_run {f : EF} {l : Loc} {s xs : List V} (e0 : l[2]?.join = some (.ref 0)) (e : f l [.list s] = some (.lst xs, [.list s])) (h : s.length + xs.length ≤ 1000) : extF 2 f l [.list s] = some (.none, [.list (s ++ xs)]) := by
 unfold extF
 simp -iota only [e0, bs, e]
 show (if s.length + xs.length ≤ 1000 then some (V.none, [AO.list (s ++ xs)]) else none) = _
 rw [if_pos h]
theorem revTF_run {f : EF} {r : PF} {l : Loc} {x y : V} (e : f l H = some (.tup [x, y], H)) (e2 : r l H = some (some (-1), H)) : revTF f r l H = some (.tup [y, x], H) := by
 unfold revTF
 simp only [e, bs, e2]
 rfl
theorem revQ_run {g : LF} {l : Loc} {xs : List V} (e : g l H = some ([.lst xs], H)) : revQ g l H = some (xs.reverse, H) := bind_of e rfl
noncomputable def Tab (p : List Bool) : Prop := (if (posP true 0 p).length % 2 = 0
  then frzG F189 [natsV (numsP p), natsV (waysP p)] [.list ((hooksP p).map iN)] = some (.tup [natsV (missP p), natsV (beyP p.length)], [.list ((hooksP p).map iN)])
  else frzG F189 [natsV (waysP p), natsV (numsP p)] [.list ((hooksP p).map iN)] = some (.tup [natsV (beyP p.length), natsV (missP p)], [.list ((hooksP p).map iN)])) ∧
 hooksP (p ++ [true]) = hooksP p ++ missP p
theorem s244 {w : List Bool} (hw : w.length = 8) (htab : ∀ p : List Bool, p.length < 8 → Tab p) (hf : ∀ p : List Bool, p.length < 8 → hooksP (p ++ [false]) = hooksP p) (hl : ∀ p : List Bool, p.length < 8 → (hooksP p).length ≤ 900) :
  frzG F244 [natsV (posP false 0 w), natsV (posP true 0 w)] [] = some (natsV (hooksP w), []) := by
 have main : F244 [natsV (posP false 0 w), natsV (posP true 0 w)] [] = some (.ref 0, [.list ((hooksP w).map iN)]) := by
  unfold F244 P244
  dsimp only
  refine ret_body (ab := [(("lows" : Str), natsV (posP false 0 w)), (("highs" : Str), natsV (posP true 0 w))]) (l0 := [some (natsV (posP false 0 w)), some (natsV (posP true 0 w)), none, none, none, none, none, none, none]) rfl rfl (ret_next (set_run (v := .ref 0) (h' := [.list []]) rfl) (ret_loop (xs := itemsW 0 0 w) (h' := [.list []]) ?q ?lp))
  case q =>
   unfold enumQ
   simp -iota only [testF, binF, callF, consF, methF, rngQ, valQ, partF, List.map_cons, List.map_nil, List.getD_cons_zero, List.getD_cons_succ, List.getElem?_cons_zero, List.getElem?_cons_succ, Option.join_some, ms, bs, List.set_cons_zero, List.set_cons_succ]
   rw [← items_eq w 0 0]
   unfold enumV natsV
   simp only [Nat.zero_add]
  case lp =>
   simp only [List.set_cons_succ, List.set_cons_zero]
   refine to_ret (α := Unit) (P := fun _ l => ∃ a3 a4 a5 a6 a7 a8, l = [some (natsV (posP false 0 w)), some (natsV (posP true 0 w)), some (.ref 0), a3, a4, a5, a6, a7, a8]) (h2 := [.list ((hooksP w).map iN)]) ?lo ?fin
   case fin =>
    intro l' _ ⟨a3, a4, a5, a6, a7, a8, e⟩
    subst e
    exact ret_now (ret_run rfl)
   case lo =>
    refine (fun ⟨l', e, p⟩ => ⟨l', (), e, p⟩) (loop244 (w := w) (S := fun p => [.list ((hooksP p).map iN)]) (P := fun l => ∃ a3 a4 a5 a6 a7 a8, l = [some (natsV (posP false 0 w)), some (natsV (posP true 0 w)), some (.ref 0), a3, a4, a5, a6, a7, a8]) ?st (fun p r e => by rw [hf p (by have := congrArg List.length e; simp at this; omega)]) w [] _ rfl ⟨_, _, _, _, _, _, rfl⟩)
    intro p r l e ⟨a3, a4, a5, a6, a7, a8, hl⟩
    subst hl
    have hq : p.length < 8 := by have := congrArg List.length e; simp at this; omega
    obtain ⟨tab, hks⟩ := htab p hq
    have hlp := hl p hq
    have hK : (posP true 0 p).length ≤ p.length := posP_len _ _ _
    have hM : (missP p).length ≤ 8 := by
     unfold missP
     rw [List.length_map, List.length_reverse]
     have := posP_len false p 0
     omega
    have hlow := ints_low (hooksP p) 1
    have eh : posP true 0 w = (posP true 0 p ++ [p.length]) ++ posP true (p.length + 1) r := by
     rw [e, posP_append, Nat.zero_add]
     have e1 : posP true p.length (true :: r) = p.length :: posP true (p.length + 1) r := rfl
     rw [e1]; simp
    have el : posP false 0 w = posP false 0 p ++ posP false p.length (true :: r) := by
     rw [e, posP_append, Nat.zero_add]
    refine ⟨[some (natsV (posP false 0 w)), some (natsV (posP true 0 w)), some (.ref 0), some (iN (posP true 0 p).length), some (iN p.length), a5, a6, a7, a8], [some (natsV (posP false 0 w)), some (natsV (posP true 0 w)), some (.ref 0), some (iN (posP true 0 p).length), some (iN p.length), some (natsV (numsP p)), some (natsV (waysP p)), some (.tup [natsV (missP p), natsV (beyP p.length)]), some (natsV (beyP p.length))], rfl, ?_, _, _, _, _, _, _, rfl⟩
    refine seq_next (set_run (v := natsV (numsP p)) (h' := [.list ((hooksP p).map iN)]) (call_run (cons_run (a := .rng 1 p.length) (h1 := [.list ((hooksP p).map iN)]) (call_run (cons_run rfl (cons_run (a := iN (p.length + 1)) (h1 := [.list ((hooksP p).map iN)]) rfl rfl)) ?n1) rfl) (s239 (l := (List.range p.length).map (1 + ·)) ?n2 (by simp; omega) hlow))) ?_
    case n1 =>
     show rng2F [.int 1, .int ((p.length + 1 : Nat) : Int)] _ = _
     rw [rng2F_run]
     rw [if_pos ⟨by decide, small_nat (by omega), by omega⟩, show (((p.length + 1 : Nat) : Int) - 1).toNat = p.length by omega]
    case n2 =>
     show (if small 1 && small (1 + (p.length : Int)) then some (rngOf 1 1 p.length) else none) = _
     rw [show (1 : Int) + (p.length : Int) = ((1 + p.length : Nat) : Int) by omega, small_nat (n := 1 + p.length) (by omega)]
     rw [if_pos (by decide)]
     unfold rngOf
     rw [List.map_map]
     congr 1
     refine List.map_congr_left fun i _ => ?_
     show V.int (1 + (i : Int) * 1) = V.int ((1 + i : Nat) : Int)
     congr 1
     omega
    refine seq_next (set_run (v := natsV (waysP p)) (h' := [.list ((hooksP p).map iN)]) (call_run (cons_run (a := .lst (((posP true 0 p ++ [p.length]).reverse.map (p.length - ·) ++ [p.length + 1]).map iN)) (h1 := [.list ((hooksP p).map iN)]) (bin_run (a := .lst (((posP true 0 p ++ [p.length]).reverse.map (p.length - ·)).map iN)) (h1 := [.list ((hooksP p).map iN)]) ?w1 (lst1_run (bin_run rfl rfl (p2_run (add_nat p.length 1)))) (p2_run ?w2)) rfl) (s239 (l := (posP true 0 p ++ [p.length]).reverse.map (p.length - ·) ++ [p.length + 1]) rfl (by simp; omega) hlow))) ?_
    case w1 =>
     refine (comp1 (H := [.list ((hooksP p).map iN)]) (xs := ((posP true 0 p ++ [p.length]).map iN).reverse) (fun _ => true) (fun v => iN (p.length - natV v)) ?_ (fun _ _ _ => rfl) ?_ (fun _ _ _ => rfl) (by simp; omega) hlow).trans ?_
     ·refine revQ_run (cons_run (a := .lst ((posP true 0 p ++ [p.length]).map iN)) (h1 := [.list ((hooksP p).map iN)]) ?_ rfl)
      rw [slice_lst (xs := (posP true 0 w).map iN) (lo := none) (hi := some (((posP true 0 p).length + 1 : Nat) : Int)) rfl rfl rfl rfl (by have := posP_len true w 0; rw [List.length_map]; omega), pick_take, eh, ← List.map_take, List.take_left' (by simp)]
     ·intro x hx _ ys
      rw [← List.map_reverse] at hx
      obtain ⟨k, hk, rfl⟩ := List.mem_map.mp hx
      have hk : k ≤ p.length := by
       rcases List.mem_append.mp (List.mem_reverse.mp hk) with h | h
       ·have := posP_mem true p 0 k h; omega
       ·have := List.mem_singleton.mp h; omega
      exact bin_run rfl rfl (p2_run (sub_nat hk))
     ·rw [← List.map_reverse, List.filter_eq_self.mpr (fun _ _ => rfl), List.map_map, List.map_map]
      rfl
    case w2 =>
     rw [add_lst (by simp; omega), List.map_append]
     rfl
    simp only [List.set_cons_succ, List.set_cons_zero]
    refine seq_next (l' := [some (natsV (posP false 0 w)), some (natsV (posP true 0 w)), some (.ref 0), some (iN (posP true 0 p).length), some (iN p.length), some (natsV (numsP p)), some (natsV (waysP p)), some (.tup [natsV (missP p), natsV (beyP p.length)]), a8]) (h' := [.list ((hooksP p).map iN)]) ?an ?_
    case an =>
     have e2 : eqF [AO.list ((hooksP p).map iN)] (iN ((posP true 0 p).length % 2)) (.int 0) = some (.bool (((((posP true 0 p).length % 2 : Nat) : Int)) == 0), [AO.list ((hooksP p).map iN)]) := eq_int _ _
     by_cases hz : (posP true 0 p).length % 2 = 0
     ·rw [if_pos hz] at tab
      exact if_true' (h' := [.list ((hooksP p).map iN)]) (test_run (h1 := [.list ((hooksP p).map iN)]) (bin_run (bin_run rfl rfl (p2_run (fmod_natV (posP true 0 p).length 2 (by decide) (by decide)))) rfl e2) (by rw [hz]; rfl)) (seq_next (set_run (v := .tup [natsV (missP p), natsV (beyP p.length)]) (call_run (cons_run (a := natsV (numsP p)) rfl (cons_run (a := natsV (waysP p)) rfl rfl)) tab)) rfl)
     ·rw [if_neg hz] at tab
      have ho : (posP true 0 p).length % 2 = 1 := by omega
      exact if_false' (h' := [.list ((hooksP p).map iN)]) (test_run (h1 := [.list ((hooksP p).map iN)]) (bin_run (bin_run rfl rfl (p2_run (fmod_natV (posP true 0 p).length 2 (by decide) (by decide)))) rfl e2) (by rw [ho]; rfl)) (seq_next (set_run (v := .tup [natsV (missP p), natsV (beyP p.length)]) (revTF_run (call_run (cons_run (a := natsV (waysP p)) rfl (cons_run (a := natsV (numsP p)) rfl rfl)) tab) rfl)) rfl)
    refine seq_next (set_run (v := natsV (beyP p.length)) (h' := [.list ((hooksP p).map iN)]) ?be) ?_
    case be =>
     have e2 : eqF [AO.list ((hooksP p).map iN)] (iN p.length) (.int 0) = some (.bool (((p.length : Nat) : Int) == 0), [AO.list ((hooksP p).map iN)]) := eq_int _ _
     by_cases hz : p.length = 0
     ·refine ite_run (b := true) (test_run (h1 := [.list ((hooksP p).map iN)]) (bin_run rfl rfl e2) (by rw [hz]; rfl)) ?_
      rw [if_pos rfl]
      have e3 : beyP p.length = copiedP [0, 1] := by unfold beyP; rw [if_pos hz]
      rw [e3]
      exact call_run (cons_run (a := .lst [iN 0, iN 1]) rfl rfl) (s239 (l := [0, 1]) rfl (by decide) hlow)
     ·refine ite_run (b := false) (test_run (h1 := [.list ((hooksP p).map iN)]) (bin_run rfl rfl e2) (by
       have : (((p.length : Nat) : Int) == 0) = false := by
        rw [beq_eq_false_iff_ne]; omega
       rw [this]; rfl)) ?_
      rw [if_neg (by decide)]
      have e3 : beyP p.length = 0 :: copiedP [p.length + 1] := by unfold beyP; rw [if_neg hz]
      rw [e3]
      refine bin_run (a := .lst [iN 0]) (lst1_run rfl) (call_run (cons_run (a := .lst [iN (p.length + 1)]) (lst1_run (bin_run rfl rfl (p2_run (add_nat p.length 1)))) rfl) (s239 (l := [p.length + 1]) rfl (by simp) hlow)) (p2_run ?_)
      have := copied_len [p.length + 1]
      rw [add_lst (by simp only [List.length_map, List.length_singleton] at this ⊢; omega)]
      rfl
    simp only [List.set_cons_succ, List.set_cons_zero]
    refine seq_next (h' := [.list ((hooksP p).map iN)]) (if_skip (test_run (h1 := [.list ((hooksP p).map iN)]) (bin_run (a := .tup [natsV (missP p), natsV (beyP p.length)]) (b := .tup [natsV (missP p), natsV (beyP p.length)]) (h1 := [.list ((hooksP p).map iN)]) (h2 := [.list ((hooksP p).map iN)]) rfl (tup2_run ?du rfl) (ne_self ?ok)) rfl)) ?_
    case du =>
     refine (comp1 (H := [.list ((hooksP p).map iN)]) (xs := ((posP false 0 w).map iN).reverse) (fun v => Nat.blt (natV v) p.length) (fun v => iN (p.length - natV v)) (revQ_run (cons_run rfl rfl)) ?_ ?_ (fun _ _ _ => rfl) (by have := posP_len false w 0; simp; omega) hlow).trans ?_
     ·intro x hx ys
      rw [← List.map_reverse] at hx
      obtain ⟨k, hk, rfl⟩ := List.mem_map.mp hx
      exact test_run (bin_run rfl rfl (p2_run (lt_nat k p.length))) rfl
     ·intro x hx hb ys
      rw [← List.map_reverse] at hx
      obtain ⟨k, hk, rfl⟩ := List.mem_map.mp hx
      have : k + 1 ≤ p.length := Nat.ble_eq.mp hb
      exact bin_run rfl rfl (p2_run (sub_nat (by omega)))
     ·rw [← List.map_reverse, el, List.reverse_append, List.map_append, List.filter_append]
      have f1 : (((posP false p.length (true :: r)).reverse.map iN).filter fun v => Nat.blt (natV v) p.length) = [] := by
       rw [List.filter_eq_nil_iff]
       intro x hx hb
       obtain ⟨k, hk, rfl⟩ := List.mem_map.mp hx
       have h1 := posP_mem _ _ _ _ (List.mem_reverse.mp hk)
       have : k + 1 ≤ p.length := Nat.ble_eq.mp hb
       omega
      have f2 : (((posP false 0 p).reverse.map iN).filter fun v => Nat.blt (natV v) p.length) = (posP false 0 p).reverse.map iN := by
       rw [List.filter_eq_self]
       intro x hx
       obtain ⟨k, hk, rfl⟩ := List.mem_map.mp hx
       have h1 := posP_mem _ _ _ _ (List.mem_reverse.mp hk)
       exact Nat.ble_eq.mpr (show k + 1 ≤ p.length by omega)
      rw [f1, f2, List.nil_append, List.map_map]
      unfold natsV missP
      rw [List.map_map]
      rfl
    case ok =>
     show (okD 7 (natsV (missP p)) && (okD 7 (natsV (beyP p.length)) && true)) = true
     rw [okD_nats (missP p) 5, okD_nats (beyP p.length) 5]
     rfl
    refine seq_next (h' := [.list ((hooksP (p ++ [true])).map iN)]) (expr_run (v := .none) ?ex) rfl
    rw [hks, List.map_append]
    exact ext_run rfl (bin_run rfl rfl rfl) (by rw [List.length_map, List.length_map]; omega)
 unfold frzG
 rw [main]
 simp only [bs, List.length_nil]
 have := frz_end (H := []) (low_nats (hooksP w) 6) rfl
 simp only [List.length_nil, List.nil_append] at this
 exact this
end
end
end
section
section
noncomputable abbrev beqNs : List Nat → List Nat → Bool := beqL Nat.beq
theorem beqNs_eq {a b : List Nat} (h : beqNs a b = true) : a = b := beqL_eq (fun _ _ => Nat.eq_of_beq_eq_true) h
noncomputable def okVH (r : Option (V × List AO)) (v : V) (h : List AO) : Bool := Option.casesOn r false fun p => beqV p.1 v && beqH p.2 h
theorem okVH_eq {r : Option (V × List AO)} {v : V} {h : List AO} (e : okVH r v h = true) : r = some (v, h) := by
 cases r with
 | none => cases e
 | some p =>
  have e := Bool.and_eq_true_iff.mp e
  rw [show p = (v, h) from Prod.ext (beqV_eq _ _ e.1) (beqH_eq e.2)]
noncomputable def tabB (p : List Bool) : Bool := (cond (Nat.beq ((posP true 0 p).length % 2) 0)
  (okVH (frzG F189 [natsV (numsP p), natsV (waysP p)] [.list ((hooksP p).map iN)]) (.tup [natsV (missP p), natsV (beyP p.length)]) [.list ((hooksP p).map iN)])
  (okVH (frzG F189 [natsV (waysP p), natsV (numsP p)] [.list ((hooksP p).map iN)]) (.tup [natsV (beyP p.length), natsV (missP p)]) [.list ((hooksP p).map iN)])) &&
 (beqNs (hooksP (p ++ [true])) (hooksP p ++ missP p) && (beqNs (hooksP (p ++ [false])) (hooksP p) && Nat.ble (hooksP p).length 900))
theorem tab_of {p : List Bool} (h : tabB p = true) : Tab p ∧ hooksP (p ++ [false]) = hooksP p ∧ (hooksP p).length ≤ 900 := by
 unfold tabB at h
 rw [Bool.and_eq_true, Bool.and_eq_true, Bool.and_eq_true] at h
 refine ⟨⟨?_, beqNs_eq h.2.1⟩, beqNs_eq h.2.2.1, Nat.ble_eq.mp h.2.2.2⟩
 cases q : Nat.beq ((posP true 0 p).length % 2) 0 with
 | true =>
  rw [if_pos (Nat.eq_of_beq_eq_true q)]
  rw [q] at h
  exact okVH_eq h.1
 | false =>
  rw [if_neg fun e => by rw [e] at q; cases q]
  rw [q] at h
  exact okVH_eq h.1
theorem tab0 : (wordsN 0).all tabB = true := by decide +kernel
theorem tab1 : (wordsN 1).all tabB = true := by decide +kernel
theorem tab2 : (wordsN 2).all tabB = true := by decide +kernel
theorem tab3 : (wordsN 3).all tabB = true := by decide +kernel
theorem tab4 : (wordsN 4).all tabB = true := by decide +kernel
theorem tab5 : (wordsN 5).all tabB = true := by decide +kernel
theorem tab6 : (wordsN 6).all tabB = true := by decide +kernel
theorem all_split {l : List (List Bool)} {p : List Bool → Bool} (k : Nat) (h1 : (l.take k).all p = true) (h2 : (l.drop k).all p = true) : l.all p = true := by
 rw [← List.take_append_drop k l, List.all_append, h1, h2]
 rfl
theorem tab7a : ((wordsN 7).take 32).all tabB = true := by decide +kernel
theorem tab7b : (((wordsN 7).drop 32).take 32).all tabB = true := by decide +kernel
theorem tab7c : ((((wordsN 7).drop 32).drop 32).take 32).all tabB = true := by decide +kernel
theorem tab7d : ((((wordsN 7).drop 32).drop 32).drop 32).all tabB = true := by decide +kernel
theorem tab7 : (wordsN 7).all tabB = true := all_split 32 tab7a (all_split 32 tab7b (all_split 32 tab7c tab7d))
theorem tab_all {p : List Bool} (h : p.length < 8) : Tab p ∧ hooksP (p ++ [false]) = hooksP p ∧ (hooksP p).length ≤ 900 := by
 refine tab_of ?_
 exact le7 (P := fun n => p.length = n → tabB p = true) _ h ⟨all_words tab0, all_words tab1, all_words tab2, all_words tab3, all_words tab4, all_words tab5, all_words tab6, all_words tab7, trivial⟩ rfl
end
end
section
section
noncomputable def idxP (x : Nat) (t : List Nat) : Nat := t.findIdx fun y => Nat.beq y x
noncomputable def unordP : List Nat → List Nat → List Nat → List Nat × List Nat
 | [], m, t => (m, t)
 | x :: r, m, t => if idxP x t < t.length then unordP r m (t.eraseIdx (idxP x t)) else unordP r (m ++ [x]) t
noncomputable def pieceB (n : Nat) : Bool := Nat.beq ((pieceS n).1.length + (pieceS n).2.length) n && (okP (pieceS n) && (Nat.ble (pieceS n).1.length 1000 && Nat.ble (pieceS n).2.length 1000))
theorem piece_tab : (List.range 41).all pieceB = true := by decide +kernel
theorem piece_ok {n : Nat} (h : n ≤ 40) : (pieceS n).1.length + (pieceS n).2.length = n ∧ okP (pieceS n) = true ∧ (pieceS n).1.length ≤ 1000 ∧ (pieceS n).2.length ≤ 1000 := by
 have := List.all_eq_true.mp piece_tab n (List.mem_range.mpr (by omega))
 unfold pieceB at this
 rw [Bool.and_eq_true, Bool.and_eq_true, Bool.and_eq_true] at this
 exact ⟨Nat.eq_of_beq_eq_true this.1, this.2.1, Nat.ble_eq.mp this.2.2.1, Nat.ble_eq.mp this.2.2.2⟩
theorem piece_eq {a b : Nat} (ha : a ≤ 40) (hb : b ≤ 40) : pEq (pieceS a) (pieceS b) = Nat.beq a b := by
 cases q : Nat.beq a b with
 | true =>
  rw [Nat.eq_of_beq_eq_true q]
  unfold pEq
  simp
 | false =>
  rw [Bool.eq_false_iff]
  intro e
  unfold pEq at e
  rw [Bool.and_eq_true, beq_iff_eq, beq_iff_eq] at e
  have h1 := (piece_ok ha).1
  have h2 := (piece_ok hb).1
  rw [e.1, e.2, h2] at h1
  rw [h1, show Nat.beq a a = true from Nat.beq_refl a] at q
  cases q
section
variable {loc : Loc} {H H' : List AO}
theorem pieces_pr (l : List Nat) : (l.map pieceS).map prV = l.map pieceV := List.map_map
theorem pairs_map (l : List Nat) : pairsV (l.map pieceV) = some (l.map pieceS) := pieces_pr l ▸ pairs_pr (l.map pieceS)
theorem sum_pieces : ∀ l : List Nat, (∀ n ∈ l, n ≤ 40) → sumLen (l.map pieceS) = (l.sum : Int)
 | [], _ => rfl
 | n :: l, h => by
  have e := sum_pieces l fun x hx => h x (.tail _ hx)
  have e2 := (piece_ok (h n (.head _))).1
  unfold sumLen at e ⊢
  rw [List.map_cons, List.map_cons, List.sum_cons, e, List.sum_cons]
  omega
theorem find_pieces {x : Nat} (hx : x ≤ 40) : ∀ t : List Nat, (∀ n ∈ t, n ≤ 40) → (t.map pieceS).findIdx (pEq · (pieceS x)) = idxP x t
 | [], _ => rfl
 | n :: t, h => by
  have e := find_pieces hx t fun y hy => h y (.tail _ hy)
  unfold idxP at e ⊢
  rw [List.map_cons, List.findIdx_cons, List.findIdx_cons, piece_eq (h n (.head _)) hx, e]
theorem testA_pieces {l : List Nat} {lc : Loc} (h : ∀ n ∈ l, n ≤ 40) (hl : l.length ≤ 100) {i : Nat} (e : H[i]? = some (accA (l.map pieceV) (.int 0))) (e0 : lc[0]?.join = some (.ref i)) : testA 178 len145 (fun loc H => Option.map (fun x => (x, H)) loc[0]?.join) lc H = some (((l.sum : Nat) : Int) != 0, H) := by
 have hs : ∀ l : List Nat, (∀ n ∈ l, n ≤ 40) → (l.sum : Nat) ≤ 40 * l.length := fun l => List.rec (motive := fun l => (∀ n ∈ l, n ≤ 40) → (l.sum : Nat) ≤ 40 * l.length) (fun _ => Nat.le_refl _) (fun n l ih h => by
  rw [List.sum_cons, List.length_cons]
  exact Nat.le_trans (Nat.add_le_add (h n (.head _)) (ih fun x hx => h x (.tail _ hx))) (Nat.le_of_eq (by rw [Nat.mul_succ, Nat.add_comm]))) l
 exact testA_run (congrArg (Option.map (·, H)) e0) (len_acc (cur := l.map pieceS) (pieces_pr l ▸ e) (fun p hp => (List.mem_map.mp hp).elim fun n z => z.2 ▸ (piece_ok (h n z.1)).2.2) (sum_pieces l h) (Nat.le_trans (hs l h) (Nat.le_trans (Nat.mul_le_mul_left 40 hl) (by decide))))
theorem loop196 {B : SF} (hB : ∀ (hr m t : List Nat) (x : Nat) (a : Option V), (∀ n ∈ x :: (hr ++ t), n ≤ 40) → m.length + hr.length ≤ 100 → t.length ≤ 100 →
   B [some (.ref 0), some (.ref 1), some (.ref 2), a] [accA ((x :: hr).reverse.map pieceV) (.int 0), .list (t.map pieceV), .list (m.map pieceV)] =
    some (.next, [some (.ref 0), some (.ref 1), some (.ref 2), some (pieceV x)], [accA (hr.reverse.map pieceV) (.int 0), .list ((if idxP x t < t.length then t.eraseIdx (idxP x t) else t).map pieceV), .list ((if idxP x t < t.length then m else m ++ [x]).map pieceV)])) :
  ∀ (hr m t : List Nat) (a : Option V) (n : Nat), (∀ x ∈ hr, 0 < x) → (∀ n ∈ hr ++ t, n ≤ 40) → m.length + hr.length ≤ 100 → t.length ≤ 100 → hr.length < n →
   ∃ a', whF (testA 178 len145 fun loc H => Option.map (fun x => (x, H)) loc[0]?.join) B n [some (.ref 0), some (.ref 1), some (.ref 2), a] [accA (hr.reverse.map pieceV) (.int 0), .list (t.map pieceV), .list (m.map pieceV)] =
    some (.next, [some (.ref 0), some (.ref 1), some (.ref 2), a'], [accA [] (.int 0), .list ((unordP hr m t).2.map pieceV), .list ((unordP hr m t).1.map pieceV)])
 | hr, m, t, a, 0, _, _, _, _, h => absurd h (Nat.not_lt_zero _)
 | [], m, t, a, n + 1, _, h40, hm, ht, _ => by
  refine ⟨a, ?_⟩
  unfold whF
  rw [testA_pieces (l := []) (i := 0) (fun _ h => by cases h) (by simp) rfl rfl]
  rfl
 | x :: hr, m, t, a, n + 1, hp, h40, hm, ht, hn => by
  have hr40 : ∀ y ∈ (x :: hr).reverse, y ≤ 40 := fun y hy => h40 y (List.mem_append_left _ (List.mem_reverse.mp hy))
  simp only [List.length_cons] at hm hn
  have hsum : ((((x :: hr).reverse.sum : Nat) : Int) != 0) = true := by
   have h1 : (x :: hr).reverse.sum = x + hr.sum := by rw [List.reverse_cons, List.sum_append, List.sum_reverse]; simp; omega
   have := hp x (.head _)
   rw [h1, bne_iff_ne]
   omega
  have ht' : (if idxP x t < t.length then t.eraseIdx (idxP x t) else t).length ≤ 100 := by
   split
   ·exact Nat.le_trans (List.length_eraseIdx_le ..) ht
   ·exact ht
  obtain ⟨a', e⟩ := loop196 hB hr (if idxP x t < t.length then m else m ++ [x]) (if idxP x t < t.length then t.eraseIdx (idxP x t) else t) (some (pieceV x)) n (fun y hy => hp y (.tail _ hy)) (fun y hy => by
   rcases List.mem_append.mp hy with h | h
   ·exact h40 y (List.mem_append_left _ (.tail _ h))
   ·refine h40 y (List.mem_append_right _ ?_)
    split at h
    ·exact List.mem_of_mem_eraseIdx h
    ·exact h) (by split <;> first | omega | (rw [List.length_append, List.length_singleton]; omega)) ht' (by omega)
  refine ⟨a', ?_⟩
  unfold whF
  rw [testA_pieces (l := (x :: hr).reverse) (i := 0) hr40 (by simp; omega) rfl rfl, hsum]
  simp only [bs, if_true]
  rw [hB hr m t x a (fun y hy => h40 y (by simpa using hy)) (by omega) ht]
  simp only [bs]
  refine e.trans ?_
  have e4 : unordP (x :: hr) m t = unordP hr (if idxP x t < t.length then m else m ++ [x]) (if idxP x t < t.length then t.eraseIdx (idxP x t) else t) := by
   rw [unordP]
   split <;> rfl
  rw [e4]
theorem ret_ex {α : Type} {f g : SF} {l : Loc} {h h2 : List AO} {v : V} {L : α → Loc} (e : ∃ a', f l h = some (.next, L a', h2)) (k : ∀ a', Ret g (L a') h2 v H') : Ret (seqF f g) l h v H' := by
 obtain ⟨a', e⟩ := e
 exact ret_next e (k a')
theorem erase_map {α β : Type} (f : α → β) : ∀ (l : List α) (i : Nat), (l.map f).eraseIdx i = (l.eraseIdx i).map f
 | [], _ => rfl
 | _ :: _, 0 => rfl
 | a :: l, i + 1 => by
  rw [List.map_cons, List.eraseIdx_cons_succ, List.eraseIdx_cons_succ, List.map_cons, erase_map f l i]
theorem rem_run {t : List Nat} {x : Nat} {A0 A2 : AO} {a0 a2 : Option V} (h40 : ∀ n ∈ t, n ≤ 40) (hx : x ≤ 40) (ht : t.length ≤ 100) :
  remF 1 3 [a0, some (.ref 1), a2, some (pieceV x)] [A0, .list (t.map pieceV), A2] = if idxP x t < t.length then some (.ok .next, [a0, some (.ref 1), a2, some (pieceV x)], [A0, .list ((t.eraseIdx (idxP x t)).map pieceV), A2]) else some (.exc, [a0, some (.ref 1), a2, some (pieceV x)], [A0, .list (t.map pieceV), A2]) := by
 have e0 : remF 1 3 [a0, some (.ref 1), a2, some (pieceV x)] [A0, .list (t.map pieceV), A2] = ((pairsV (t.map pieceV)).bind fun ps => (pairV (pieceV x)).bind fun pr => if ((t.map pieceV).length ≤ 1000 ∧ okP pr = true ∧ ps.all okP = true) then
    (if ps.findIdx (pEq · pr) < ps.length then some (.ok .next, [a0, some (.ref 1), a2, some (pieceV x)], [A0, .list (t.map pieceV), A2].set 1 (.list ((t.map pieceV).eraseIdx (ps.findIdx (pEq · pr))))) else some (.exc, [a0, some (.ref 1), a2, some (pieceV x)], [A0, .list (t.map pieceV), A2])) else none) := rfl
 rw [e0, pairs_map, bs, show pairV (pieceV x) = some (pieceS x) from rfl, bs, find_pieces hx t h40]
 rw [if_pos ⟨by rw [List.length_map]; omega, (piece_ok hx).2.1, by
  rw [List.all_map]
  exact List.all_eq_true.mpr fun n hn => (piece_ok (h40 n hn)).2.1⟩]
 simp only [List.length_map, List.set_cons_succ, List.set_cons_zero, erase_map]
theorem s196 {h t : List Nat} (hp : ∀ x ∈ h, 0 < x) (h40 : ∀ n ∈ h ++ t, n ≤ 40) (hh : h.length < 100) (ht : t.length ≤ 100) :
  frzG F196 [.ref 0, .ref 1] [accA (h.map pieceV) (.int 0), .list (t.map pieceV)] = some (.tup [.lst ((unordP h.reverse [] t).1.map pieceV), .ref 1], [accA [] (.int 0), .list ((unordP h.reverse [] t).2.map pieceV)]) := by
 have main : F196 [.ref 0, .ref 1] [accA (h.map pieceV) (.int 0), .list (t.map pieceV)] = some (.tup [.ref 2, .ref 1], [accA [] (.int 0), .list ((unordP h.reverse [] t).2.map pieceV), .list ((unordP h.reverse [] t).1.map pieceV)]) := by
  unfold F196 P196
  dsimp only
  refine ret_body (ab := [(("expected" : Str), .ref 0), (("actual" : Str), .ref 1)]) (l0 := [some (.ref 0), some (.ref 1), none, none]) rfl rfl (ret_next (set_run (v := .ref 2) (h' := [accA (h.map pieceV) (.int 0), .list (t.map pieceV), .list []]) rfl) ?_)
  simp only [List.set_cons_succ, List.set_cons_zero]
  refine ret_ex (L := fun a => [some (.ref 0), some (.ref 1), some (.ref 2), a]) (h2 := [accA [] (.int 0), .list ((unordP h.reverse [] t).2.map pieceV), .list ((unordP h.reverse [] t).1.map pieceV)]) ?lo (fun a => ret_now (ret_run (tup2_run rfl rfl)))
  have e1 : h.map pieceV = h.reverse.reverse.map pieceV := by rw [List.reverse_reverse]
  rw [e1]
  refine loop196 ?hB h.reverse [] t none 100 (fun x hx => hp x (List.mem_reverse.mp hx)) (fun n hn => h40 n (by simpa using hn)) (by simp; omega) ht (by simp; omega)
  intro hr m t x a h40 hm ht
  have e2 : (x :: hr).reverse.map pieceV = hr.reverse.map pieceV ++ [pieceV x] := by simp
  rw [e2]
  refine seq_next (set_run (v := pieceV x) (h' := [accA (hr.reverse.map pieceV) (.int 0), .list (t.map pieceV), .list (m.map pieceV)]) (meth_run (a := .ref 0) rfl (inst_acc rfl _ (by rfl)) rfl (pop_end (i := 0) rfl (by rw [List.length_map, List.length_reverse]; omega)))) ?_
  simp only [List.set_cons_succ, List.set_cons_zero]
  have er := rem_run (A0 := accA (hr.reverse.map pieceV) (.int 0)) (A2 := .list (m.map pieceV)) (a0 := some (.ref 0)) (a2 := some (.ref 2)) (t := t) (x := x) (fun n hn => h40 n (.tail _ (List.mem_append_right _ hn))) (h40 x (.head _)) ht
  have ea : ∀ H1 : AO, appNF 2 (fun loc H => Option.map (fun x => (x, H)) loc[3]?.join) [some (.ref 0), some (.ref 1), some (.ref 2), some (pieceV x)] [accA (hr.reverse.map pieceV) (.int 0), H1, .list (m.map pieceV)] = some (.none, [accA (hr.reverse.map pieceV) (.int 0), H1, .list ((m ++ [x]).map pieceV)]) := fun H1 => by
   show (appendTo 2 (pieceV x) [accA (hr.reverse.map pieceV) (.int 0), H1, .list (m.map pieceV)]).map (V.none, ·) = _
   unfold appendTo
   show (if (m.map pieceV).length ≤ 1000 then some ([accA (hr.reverse.map pieceV) (.int 0), H1, .list (m.map pieceV)].set 2 (.list (m.map pieceV ++ [pieceV x]))) else none).map (V.none, ·) = _
   rw [if_pos (by rw [List.length_map]; omega), List.map_append]
   rfl
  refine seq_next (l' := [some (.ref 0), some (.ref 1), some (.ref 2), some (pieceV x)]) (h' := [accA (hr.reverse.map pieceV) (.int 0), .list ((if idxP x t < t.length then t.eraseIdx (idxP x t) else t).map pieceV), .list ((if idxP x t < t.length then m else m ++ [x]).map pieceV)]) ?_ rfl
  unfold teF
  by_cases hi : idxP x t < t.length
  ·rw [if_pos hi] at er
   rw [if_pos hi, if_pos hi]
   have e3 : (rseqF (remF 1 3) (okF fun loc H => some (FL.next, loc, H))) [some (.ref 0), some (.ref 1), some (.ref 2), some (pieceV x)] [accA (hr.reverse.map pieceV) (.int 0), .list (t.map pieceV), .list (m.map pieceV)] = some (.ok .next, [some (.ref 0), some (.ref 1), some (.ref 2), some (pieceV x)], [accA (hr.reverse.map pieceV) (.int 0), .list ((t.eraseIdx (idxP x t)).map pieceV), .list (m.map pieceV)]) := by
    unfold rseqF
    rw [er]
    rfl
   rw [e3]
   rfl
  ·rw [if_neg hi] at er
   rw [if_neg hi, if_neg hi]
   have e3 : (rseqF (remF 1 3) (okF fun loc H => some (FL.next, loc, H))) [some (.ref 0), some (.ref 1), some (.ref 2), some (pieceV x)] [accA (hr.reverse.map pieceV) (.int 0), .list (t.map pieceV), .list (m.map pieceV)] = some (.exc, [some (.ref 0), some (.ref 1), some (.ref 2), some (pieceV x)], [accA (hr.reverse.map pieceV) (.int 0), .list (t.map pieceV), .list (m.map pieceV)]) := by
    unfold rseqF
    rw [er]
    rfl
   rw [e3]
   simp only [bs]
   exact seq_next (expr_run (ea _)) rfl
 unfold frzG
 rw [main]
 simp only [bs]
 generalize (unordP h.reverse [] t).1 = a
 generalize (unordP h.reverse [] t).2 = b
 have lowP : ∀ (l : List Nat) (k n : Nat), (l.map pieceV).all (lowV n (k + 2)) = true := fun l k n => by
  rw [List.all_map]
  exact List.all_eq_true.mpr fun _ _ => rfl
 have h1 : [accA [] (.int 0), .list (b.map pieceV)].all (lowO 2) = true := by
  show (true && ((b.map pieceV).all (lowV 2 8) && true)) = true
  rw [lowP b 6 2]
  rfl
 have h2 : frzV 2 [accA [] (.int 0), .list (b.map pieceV), .list (a.map pieceV)] 7 (.ref 2) = some (.lst (a.map pieceV)) := by
  show (allM (frzV 2 [accA [] (.int 0), .list (b.map pieceV), .list (a.map pieceV)] 6) (a.map pieceV)).map V.lst = _
  rw [allM_id]
  ·rfl
  ·intro z hz
   obtain ⟨n, _, rfl⟩ := List.mem_map.mp hz
   rfl
 show (if ([accA [] (.int 0), .list (b.map pieceV)].all (lowO 2)) then (frzV 2 [accA [] (.int 0), .list (b.map pieceV), .list (a.map pieceV)] 8 (.tup [.ref 2, .ref 1])).map (·, [accA [] (.int 0), .list (b.map pieceV)]) else none) = _
 rw [if_pos h1]
 have h3 : frzV 2 [accA [] (.int 0), .list (b.map pieceV), .list (a.map pieceV)] 8 (.tup [.ref 2, .ref 1]) = some (.tup [.lst (a.map pieceV), .ref 1]) := by
  show (allM (frzV 2 [accA [] (.int 0), .list (b.map pieceV), .list (a.map pieceV)] 7) [.ref 2, .ref 1]).map V.tup = _
  unfold allM
  rw [h2]
  rfl
 rw [h3]
 rfl
end
end
end
section
section
noncomputable abbrev mkrA (M : Int) (ch : Str) : AO := .inst 94 none [("_maxlen", .int M), ("_continuation_ws", .str " "), ("_continuation_ws_len", .int 1), ("_splitchars", .str ch), ("_lines", .ref 1), ("_current_line", .ref 2)]
noncomputable abbrev HA (M : Int) (ch : Str) (L : List Str) (cur : List (Str × Str)) (z : Int) : List AO := [mkrA M ch, .list (L.map V.str), accA (cur.map prV) (.int z)]
noncomputable abbrev nmF (i : Nat) : EF := fun loc H => Option.map (fun x => (x, H)) loc[i]?.join
noncomputable abbrev nilF : SF := fun loc H => some (.next, loc, H)
noncomputable abbrev B217 : SF := seqF (ifF (testF (binF (methF (nmF 4) (isInst 94 "_append_chunk") (consF (nmF 5) (consF (nmF 6) fun _ H => some ([], H))) F91) (fun _ H => some (V.none, H)) (pure2 isntV))) (seqF (retF (lstF fun _ H => some ([], H))) nilF) nilF) nilF
noncomputable abbrev tf217 : GF := tup2F (fun v loc => some (List.set loc 5 (some v))) fun v loc => some (List.set loc 6 (some v))
section
variable {loc : Loc} {H H' : List AO} {M : Int} {ch : Str} {L : List Str} {cur c0 : List (Str × Str)} {z : Int}
theorem and_false {t u : TF} {l : Loc} {h h' : List AO} (e : t l h = some (false, h')) : andF t u l h = some (false, h') := by
 unfold andF
 rw [e]
 rfl
theorem new94 : F94 [.int z, .int M, .str " ", .str ch] [] = some (.ref 0, HA M ch [] [] z) := by kernel_rfl!
theorem end56 : F56 [.ref 0] (HA M ch L [] 0) = some (.none, HA M ch L [] 0) := by kernel_rfl!
theorem s56 {s : Str} {p : Str × Str} {n : Nat} (hL : L.length ≤ 900) (e1 : pop138 [.ref 2] (HA M ch L cur 0) = some (prV p, HA M ch L c0 0)) (e2 : neF (HA M ch L c0 0) (prV p) (.tup [.str " ", .str ""]) = some (.bool true, HA M ch L c0 0)) (e3 : F122 [.ref 2, .str p.1, .str p.2] (HA M ch L c0 0) = some (.none, HA M ch L cur 0))
  (e4 : lenA 178 len145 [.ref 2] (HA M ch L cur 0) = some (iN (n + 1), HA M ch L cur 0)) (e5 : F167 [.ref 2] (HA M ch L cur 0) = some (.bool false, HA M ch L cur 0)) (e6 : strA 178 str152 [.ref 2] (HA M ch L cur 0) = some (.str s, HA M ch L cur 0)) (e7 : ∀ L, F160 [.ref 2] (HA M ch L cur 0) = some (.none, HA M ch L [] 0)) :
  F56 [.ref 0] (HA M ch L cur 0) = some (.none, HA M ch (L ++ [s]) [] 0) := by
 have ac : ∀ (L : List Str) (cur : List (Str × Str)) (l : Loc), attrF (nmF 0) 94 "_current_line" (some (.ref 0) :: l) (HA M ch L cur 0) = some (.ref 2, HA M ch L cur 0) := fun _ _ _ => by kernel_rfl!
 have al : ∀ (L : List Str) (cur : List (Str × Str)) (l : Loc), attrF (nmF 0) 94 "_lines" (some (.ref 0) :: l) (HA M ch L cur 0) = some (.ref 1, HA M ch L cur 0) := fun _ _ _ => by kernel_rfl!
 unfold F56 P56
 dsimp only
 refine body_next (ab := [(("self" : Str), .ref 0)]) (l0 := [some (.ref 0), none]) rfl rfl (seq_next (h' := HA M ch L c0 0) (set_run (v := prV p) (meth_run (a := .ref 2) (ac _ _ _) (inst_acc rfl _ (by rfl)) rfl e1)) (seq_next (h' := HA M ch L cur 0) (if_true' (h' := HA M ch L c0 0) (test_run (h1 := HA M ch L c0 0) (bin_run (a := prV p) (h1 := HA M ch L c0 0) (h2 := HA M ch L c0 0) rfl rfl e2) rfl) (seq_next (expr_run (v := .none) ?pu) rfl))
  (seq_next (h' := HA M ch (L ++ [s]) cur 0) (if_true' (h' := HA M ch L cur 0) (test_run (h1 := HA M ch L cur 0) (bin_run (a := iN (n + 1)) (h1 := HA M ch L cur 0) (h2 := HA M ch L cur 0) (call_run (cons_run (ac _ _ _) rfl) e4) rfl (p2_run (gt_nat (n + 1) 0))) rfl) (seq_next (h' := HA M ch (L ++ [s]) cur 0) (if_false' (h' := HA M ch L cur 0) ?an (seq_next (expr_run (v := .none) (meth_run (a := .ref 1) (h1 := HA M ch L cur 0) (al _ _ _) rfl (cons_run (call_run (cons_run (ac _ _ _) rfl) e6) rfl) ?ap)) rfl)) rfl)) (seq_next (expr_run (v := .none) (meth_run (a := .ref 2) (ac _ _ _) (inst_acc rfl _ (by rfl)) rfl (e7 _))) rfl))))
 case pu =>
  unfold methSF
  simp only [List.set_cons_succ, List.set_cons_zero, ac, bs]
  rw [if_pos (inst_acc rfl _ (by rfl))]
  exact e3
 case an => exact and_false (test_run (h1 := HA M ch L cur 0) (meth_run (a := .ref 2) (ac _ _ _) (inst_acc rfl _ (by rfl)) rfl e5) rfl)
 case ap =>
  rw [app_run (i := 1) (xs := L.map V.str) rfl (by rw [List.length_map]; omega), show HA M ch (L ++ [s]) cur 0 = (HA M ch L cur 0).set 1 (.list (L.map V.str ++ [.str s])) by simp]
theorem call2_run {g : List AO → V → V → Option V} {a b u : V} (h : g H a b = some u) : call2F g [a, b] H = some (u, H) := bind_of (o := two? [a, b]) rfl (congrArg (Option.map (·, H)) h)
theorem join_run {v : V} {L : List Str} {sep : Str} (e : listOf? H v = some (L.map V.str)) (hs : sep.length ≤ 16) (hn : (L.map (·.length)).sum + L.length ≤ 1048576) : joinF [.str sep, v] H = some (.str (Txt.join sep L), H) :=
 call2_run (bind_of (o := V.str? (.str sep)) rfl (bind_of e (bind_of ((strs_map (fun x : Str => x) L).trans (by rw [List.map_id'])) (if_pos ⟨hs, hn⟩))))
theorem s42 {L2 : List Str} {sep : Str} (e : F56 [.ref 0] (HA M ch L cur 0) = some (.none, HA M ch L2 [] 0)) (hs : sep.length ≤ 16) (hn : (L2.map (·.length)).sum + L2.length ≤ 900) : F42 [.ref 0, .str sep] (HA M ch L cur 0) = some (.str (Txt.join sep L2), HA M ch L2 [] 0) := by
 unfold F42 P42
 dsimp only
 have al : ∀ (L : List Str) (cur : List (Str × Str)) (l : Loc), attrF (nmF 0) 94 "_lines" (some (.ref 0) :: l) (HA M ch L cur 0) = some (.ref 1, HA M ch L cur 0) := fun _ _ _ => by kernel_rfl!
 refine body_run (ab := [(("self" : Str), .ref 0), (("linesep" : Str), .str sep)]) (l0 := [some (.ref 0), some (.str sep)]) rfl rfl (seq_next (h' := HA M ch L2 [] 0) (expr_run (v := .none) (meth_run (a := .ref 0) (h1 := HA M ch L cur 0) rfl (by kernel_rfl!) rfl e)) (seq_ret (ret_run (meth_run (a := .str sep) rfl rfl (cons_run (al _ _ _) rfl) ?j))))
 exact join_run rfl hs (Nat.le_trans hn (by decide))
theorem parts_len (x y : Str) (hy : 0 < y.length) : (Builtin.Str.partsBetween x (Builtin.Str.occurrences x y 0 x.length (x.length + 1)) y.length).length ≤ x.length + 1 := by
 have h := StrLaws.glued_between_self x y (x.length + 1)
 have h2 := size_glued y (Builtin.Str.partsBetween x (Builtin.Str.occurrences x y 0 x.length (x.length + 1)) y.length)
 rw [h] at h2
 have : ((Builtin.Str.partsBetween x (Builtin.Str.occurrences x y 0 x.length (x.length + 1)) y.length).length - 1) * 1 ≤ ((Builtin.Str.partsBetween x (Builtin.Str.occurrences x y 0 x.length (x.length + 1)) y.length).length - 1) * y.length := Nat.mul_le_mul_left _ hy
 omega
theorem join_len (sep : Str) (L : List Str) (hs : sep.length ≤ 1) : (Txt.join sep L).length ≤ (L.map (·.length)).sum + L.length := by
 show (Builtin.Str.glued sep L).length ≤ _
 rw [size_glued]
 have : (L.length - 1) * sep.length ≤ (L.length - 1) * 1 := Nat.mul_le_mul_left _ hs
 omega
theorem s217 {chunks : List V} {head width : Int} {L2 : List Str} {a5 a6 : Option V}
  (hloop : loopF tf217 B217 nilF chunks [some (.lst chunks), some (.int head), some (.int width), some (.str ch), some (.ref 0), none, none, none] (HA width ch [] [] head) = some (.next, [some (.lst chunks), some (.int head), some (.int width), some (.str ch), some (.ref 0), a5, a6, none], HA width ch L cur 0))
  (e56 : F56 [.ref 0] (HA width ch L cur 0) = some (.none, HA width ch L2 [] 0)) (hne : L2 ≠ []) (hbar : ∀ p ∈ L2, 124 ∉ p.cps.toList) (hok : PyData.strOk (Txt.join "" L2) = true) (hlen : (L2.map (·.length)).sum + L2.length ≤ 900) (hlow : chunks.all (lowV 0 7) = true) :
  frameG F217 [.lst chunks, .int head, .int width, .str ch] H = some (.lst (L2.map V.str), H) := by
 have main : F217 [.lst chunks, .int head, .int width, .str ch] [] = some (.lst (L2.map V.str), HA width ch L2 [] 0) := by
  unfold F217 P217
  dsimp only
  refine ret_body (ab := [(("chunks" : Str), .lst chunks), (("head" : Str), .int head), (("width" : Str), .int width), (("mark" : Str), .str ch)]) (l0 := [some (.lst chunks), some (.int head), some (.int width), some (.str ch), none, none, none, none]) rfl rfl (ret_next (set_run (v := .ref 0) (h' := HA width ch [] [] head) (call_run (cons_run rfl (cons_run rfl (cons_run rfl (cons_run rfl rfl)))) new94)) (ret_loop (xs := chunks) (h' := HA width ch [] [] head) (valQ_run rfl rfl) ⟨_, _, hloop, ?rest⟩))
  refine ret_next (set_run (v := .lst (L2.map V.str)) (h' := HA width ch L2 [] 0) (meth_run (a := .str (Txt.join "|" L2)) (h1 := HA width ch L2 [] 0) (meth_run (a := .ref 0) rfl (by kernel_rfl!) (cons_run rfl rfl) (s42 e56 (by decide) hlen)) rfl (cons_run rfl rfl) ?sp)) (ret_now (ret_run (ite_run (b := true) (test_run (h1 := HA width ch L2 [] 0) (bin_run (a := .str (Txt.join "" L2)) (b := .str (Txt.join "" L2)) (h1 := HA width ch L2 [] 0) (h2 := HA width ch L2 [] 0) (meth_run (a := .ref 0) rfl (by kernel_rfl!) (cons_run rfl rfl) (s42 end56 (by decide) hlen)) (meth_run rfl rfl (cons_run rfl rfl) (join_run rfl (by decide) (Nat.le_trans hlen (by decide)))) (eq_self' hok)) rfl) rfl)))
  case sp =>
   have hx := join_len "|" L2 (by decide)
   have e1 : Txt.split (Txt.join "|" L2) "|" = L2 := by
    have e2 : Txt.join "|" L2 = Str.join ⟨#[124]⟩ L2 := StrLaws.glued_eq_join _ _
    rw [e2]
    exact split_join hne hbar
   have hy := parts_len (Txt.join "|" L2) "|" (by decide)
   refine call2_run (bind_of (o := V.str? (.str (Txt.join "|" L2))) rfl (bind_of (o := V.str? (.str "|")) rfl ?_))
   rw [if_pos ⟨by decide, by omega, by omega⟩, e1]
 unfold frameG
 rw [if_pos (by
  show (chunks.all (lowV 0 7) && true) = true
  rw [hlow]; rfl)]
 unfold frzG
 rw [main]
 simp only [bs]
 show ((if ((HA width ch L2 [] 0).take 0).all (lowO 0) then (frzV 0 (HA width ch L2 [] 0) 8 (.lst (L2.map V.str))).map (·, (HA width ch L2 [] 0).take 0) else none).map fun q => (q.1, H)) = _
 rw [if_pos (show ((HA width ch L2 [] 0).take 0).all (lowO 0) = true from rfl), low_frz 8 (by
  show (L2.map V.str).all (lowV 0 7) = true
  rw [List.all_map]
  exact List.all_eq_true.mpr fun _ _ => rfl)]
 rfl
end
end
end
section
section
section
variable {loc : Loc} {H H' : List AO} {M : Int} {ch : Str} {L : List Str} {cur c0 : List (Str × Str)} {z : Int}
theorem reset_run {xs : List V} {z : V} {i : Nat} (h : H[i]? = some (accA xs z)) (hl : xs.length ≤ 1000) : F160 [.ref i] H = some (.none, (H.set i (accA [] z)).set i (accA [] (.int 0))) := by
 have hi : i < H.length := by
  rcases Nat.lt_or_ge i H.length with q | q
  ·exact q
  ·rw [List.getElem?_eq_none q] at h; cases h
 unfold F160 P160
 dsimp only
 refine body_next (ab := [(("self" : Str), .ref i), (("startval" : Str), .none)]) (l0 := [some (.ref i), some .none]) rfl rfl (seq_next (h' := H) (if_true' (h' := H) (test_run (h1 := H) (bin_run rfl rfl (p2_run (v := .bool true) rfl)) rfl) (seq_next (set_run (v := .lst []) rfl) rfl)) (seq_next (l' := [some (.ref i), some (.lst [])]) (h' := H.set i (accA [] z)) ?sl (seq_next (l' := [some (.ref i), some (.lst [])]) (h' := (H.set i (accA [] z)).set i (accA [] (.int 0))) ?sa rfl)))
 case sl =>
  refine (setslice_run (y := .lst []) (a := .ref i) (ys := []) rfl rfl rfl rfl (seq_acc h) rfl (by simpa using hl)).trans ?_
  rw [setPick_all]
  rfl
 case sa =>
  unfold setattrF
  simp only [bs, List.set_cons_succ, List.set_cons_zero, List.getElem?_cons_zero, Option.join_some, ms]
  rw [inst_eq (xs := []) (z := z) (by simp [hi])]
  rfl
theorem ws_run {i n : Nat} (e : H[i]? = some (accA (cur.map prV) (.int 0))) (hl : ∀ p ∈ cur, p.1.length ≤ 1000 ∧ p.2.length ≤ 1000) (hs : sumLen cur = ((n + 1 : Nat) : Int)) (hn : n + 1 ≤ 1000) (h2 : (cur.map fun p => (oneStr p).length).sum + cur.length ≤ 1000) (hw : spaceF [.str (allStr cur)] H = some (.bool false, H)) : F167 [.ref i] H = some (.bool false, H) := by
 unfold F167 P167
 dsimp only
 refine body_run (ab := [(("self" : Str), .ref i)]) (l0 := [some (.ref i)]) rfl rfl (seq_ret (ret_run ?_))
 have a1 : attrF (fun loc H => Option.map (fun x => (x, H)) loc[0]?.join) 178 "_initial_size" [some (.ref i)] H = some (.int 0, H) := bind_of (o := Option.map (·, H) [some (V.ref i)][0]?.join) rfl (bind_of (inst_eq e) rfl)
 have a2 : binF (attrF (fun loc H => Option.map (fun x => (x, H)) loc[0]?.join) 178 "_initial_size") (fun x H => some (V.int 0, H)) eqF [some (.ref i)] H = some (.bool true, H) := bin_run a1 rfl (eq_int 0 0)
 have a3 : notA (testA 178 len145 fun loc H => Option.map (fun x => (x, H)) loc[0]?.join) [some (.ref i)] H = some (.bool false, H) := by
  have h1 : (((n + 1 : Nat) : Int) != 0) = true := bne_iff_ne.mpr (by omega)
  unfold notA
  rw [testA_run (a := .ref i) (h1 := H) rfl (len_acc e hl hs (Nat.le_trans hn (by decide))), h1]
  rfl
 have a4 : methF (callF (consF (fun loc H => Option.map (fun x => (x, H)) loc[0]?.join) fun x H => some ([], H)) (strA 178 str152)) isStrV (fun x H => some ([], H)) spaceF [some (.ref i)] H = some (.bool false, H) := meth_run (a := .str (allStr cur)) (call_run (cons_run rfl rfl) (str_acc e hl h2)) rfl rfl hw
 unfold andV
 rw [a2]
 simp only [bs, truthV, if_true]
 unfold orV
 rw [a3]
 simp only [bs, truthV]
 exact a4
theorem s56g {p : Str × Str} {n : Nat} (hL : L.length ≤ 900) (hc : cur = c0 ++ [p]) (hcl : cur.length ≤ 100) (hp : ∀ H, neF H (prV p) (.tup [.str " ", .str ""]) = some (.bool true, H)) (hl : ∀ p ∈ cur, p.1.length ≤ 1000 ∧ p.2.length ≤ 1000) (hs : sumLen cur = ((n + 1 : Nat) : Int)) (hn : n + 1 ≤ 1000) (h2 : (cur.map fun p => (oneStr p).length).sum + cur.length ≤ 1000) (hw : ∀ H, spaceF [.str (allStr cur)] H = some (.bool false, H)) :
  F56 [.ref 0] (HA M ch L cur 0) = some (.none, HA M ch (L ++ [allStr cur]) [] 0) := by
 have hcl0 : c0.length < 100 := by
  have := congrArg List.length hc
  rw [List.length_append, List.length_singleton] at this
  omega
 refine s56 (p := p) (c0 := c0) (n := n) hL ?_ (hp _) ?_ (len_acc rfl hl hs (Nat.le_trans hn (by decide))) (ws_run rfl hl hs hn h2 (hw _)) (str_acc rfl hl h2) fun L => reset_run (i := 2) rfl (by rw [List.length_map]; omega)
 ·rw [pop_end (xs := c0.map prV) (y := prV p) (z := .int 0) (by rw [hc, show (HA M ch L (c0 ++ [p]) 0)[2]? = some (accA ((c0 ++ [p]).map prV) (.int 0)) from rfl, List.map_append]; rfl) (by rw [List.length_map]; omega)]
  rfl
 ·rw [push_run (i := 2) (xs := c0.map prV) rfl (by rw [List.length_map]; omega), hc]
  simp
end
end
end
section
section
noncomputable abbrev cW (b : Bool) : Str × Str := (" ", wdS b)
noncomputable def cS (r : List Bool) : List (Str × Str) := r.flatMap fun b => [((" " : Str), ("" : Str)), (("" : Str), wdS b)]
noncomputable abbrev chAB (b : Bool) : V := .tup [.str " ", .str (wdS b)]
noncomputable def curL (m : Bool) (k : Nat) (e : Bool) : List Bool := List.replicate k (!m) ++ cond e [m] []
noncomputable def cutP (m : Bool) : Nat → Bool → List Bool → List (List Bool)
 | _, _, [] => []
 | k, false, b :: r => if b == m then cutP m k true r else cutP m (k + 1) false r
 | k, true, b :: r => curL m k true :: (if b == m then cutP m 0 true r else cutP m 1 false r)
noncomputable def endP (m : Bool) : Nat → Bool → List Bool → List Bool
 | k, e, [] => curL m k e
 | k, false, b :: r => if b == m then endP m k true r else endP m (k + 1) false r
 | k, true, b :: r => if b == m then endP m 0 true r else endP m 1 false r
noncomputable def partP (m : Bool) (w : List Bool) : List (List Bool) := cutP m 0 false w ++ [endP m 0 false w]
theorem join_list (L : List Str) : (Txt.join eStr L).cps.toList = L.flatMap fun x => x.cps.toList := by
 rw [show Txt.join eStr L = Str.join eStr L from StrLaws.glued_eq_join _ _]
 induction L with
 | nil => rfl
 | cons x L ih =>
  cases L with
  | nil => simp [Str.join]
  | cons y L =>
   rw [List.flatMap_cons, ← ih]
   show (x ++ eStr ++ Str.join eStr (y :: L)).cps.toList = _
   simp only [PySem.Str.cps_append, Array.toList_append, List.append_assoc]
   rfl
theorem rowL_append : ∀ a b : List Bool, rowL (a ++ b) = rowL a ++ rowL b
 | [], _ => rfl
 | x :: a, b => by rw [List.cons_append, rowL, rowL, rowL_append a b]; rfl
theorem join_rows (R : List (List Bool)) : Txt.join "" (R.map rowS) = rowS R.flatten := by
 refine str_ext ?_
 rw [show (("" : Str)) = eStr from by kernel_rfl!, join_list]
 induction R with
 | nil => rfl
 | cons r R ih =>
  rw [List.map_cons, List.flatMap_cons, ih, List.flatten_cons]
  show rowL r ++ rowL R.flatten = rowL (r ++ R.flatten)
  rw [rowL_append]
theorem one_cW (b : Bool) : (oneStr (cW b)).cps.toList = [32, cond b 97 98, cond b 98 97] := by cases b <;> kernel_rfl!
theorem one_s1 : (oneStr (" ", "")).cps.toList = [32] := by kernel_rfl!
theorem one_s2 (b : Bool) : (oneStr ("", wdS b)).cps.toList = [cond b 97 98, cond b 98 97] := by cases b <;> kernel_rfl!
theorem all_cW (r : List Bool) : allStr (r.map cW) = rowS r := by
 refine str_ext ?_
 unfold allStr
 rw [join_list, List.flatMap_map, List.flatMap_map]
 show _ = rowL r
 induction r with
 | nil => rfl
 | cons b r ih => rw [List.flatMap_cons, ih, one_cW]; rfl
theorem all_cS (r : List Bool) : allStr (cS r) = rowS r := by
 refine str_ext ?_
 unfold allStr cS
 rw [join_list, List.flatMap_map]
 show _ = rowL r
 induction r with
 | nil => rfl
 | cons b r ih =>
  rw [List.flatMap_cons, List.flatMap_append, ih, List.flatMap_cons, List.flatMap_cons, one_s1, one_s2]
  rfl
theorem sum_cW : ∀ r : List Bool, sumLen (r.map cW) = ((3 * r.length : Nat) : Int)
 | [] => rfl
 | b :: r => by
  have e := sum_cW r
  have e2 : ((cW b).1.length : Int) + ((cW b).2.length : Int) = 3 := by cases b <;> kernel_rfl!
  unfold sumLen at e ⊢
  rw [List.map_cons, List.map_cons, List.sum_cons, e, e2, List.length_cons]
  omega
theorem sum_cS : ∀ r : List Bool, sumLen (cS r) = ((3 * r.length : Nat) : Int)
 | [] => rfl
 | b :: r => by
  have e := sum_cS r
  have e1 : ((" " : Str).length : Int) + (("" : Str).length : Int) = 1 := by kernel_rfl!
  have e2 : (("" : Str).length : Int) + ((wdS b).length : Int) = 2 := by cases b <;> kernel_rfl!
  unfold sumLen cS at e ⊢
  rw [List.flatMap_cons, List.map_append, List.sum_append, e, List.map_cons, List.map_cons, List.sum_cons, List.sum_cons, e1, e2, List.length_cons]
  simp only [List.map_nil, List.sum_nil]
  omega
theorem row_noSpace {H : List AO} : ∀ {r : List Bool}, r ≠ [] → spaceF [.str (rowS r)] H = some (.bool false, H)
 | [], h => absurd rfl h
 | b :: r, _ => by
  show some (V.bool (decide ((rowS (b :: r)).length > 0) && (rowS (b :: r)).cps.all Unicode.isSpace), H) = _
  have e : (rowS (b :: r)).cps.all Unicode.isSpace = false := by
   unfold rowS
   rw [List.all_toArray]
   have : Unicode.isSpace (cond b 97 98) = false := by cases b <;> kernel_rfl!
   simp only [rowL, List.all_cons, this, Bool.false_and, Bool.and_false]
  rw [e, Bool.and_false]
theorem row_bar (r : List Bool) : 124 ∉ (rowS r).cps.toList := by
 show 124 ∉ rowL r
 induction r with
 | nil => exact List.not_mem_nil
 | cons b r ih =>
  intro h
  simp only [rowL, List.mem_cons] at h
  rcases h with h | h | h | h
  ·cases h
  ·cases b <;> cases h
  ·cases b <;> cases h
  ·exact ih h
theorem row_ok (r : List Bool) : PyData.strOk (rowS r) = true := by
 unfold PyData.strOk rowS
 rw [List.all_toArray]
 induction r with
 | nil => rfl
 | cons b r ih => cases b <;> simp only [rowL, List.all_cons, ih] <;> rfl
end
end
section
section
section
variable {loc : Loc} {H H' : List AO} {M : Int} {ch : Str} {L : List Str} {cur c0 : List (Str × Str)} {z : Int}
theorem ne_cW (b : Bool) : neF H (prV (cW b)) (.tup [.str " ", .str ""]) = some (.bool true, H) := by cases b <;> kernel_rfl!
theorem ne_s2 (b : Bool) : neF H (prV ("", wdS b)) (.tup [.str " ", .str ""]) = some (.bool true, H) := by cases b <;> kernel_rfl!
theorem last_split : ∀ {r : List Bool}, r ≠ [] → ∃ r0 b, r = r0 ++ [b] := fun {r} h => ⟨r.dropLast, r.getLast h, (List.dropLast_concat_getLast h).symm⟩
theorem tailAB {r : List Bool} (hr : r ≠ []) (hl : r.length ≤ 30) (hL : L.length ≤ 900) : F56 [.ref 0] (HA M ch L (r.map cW) 0) = some (.none, HA M ch (L ++ [rowS r]) [] 0) := by
 obtain ⟨r0, b, e⟩ := last_split hr
 have h1 : 0 < r.length := List.length_pos_iff.mpr hr
 rw [← all_cW r]
 refine s56g (c0 := r0.map cW) (p := cW b) (n := 3 * r.length - 1) hL (by rw [e, List.map_append]; rfl) (by rw [List.length_map]; omega) (fun H => ne_cW b) ?_ (by rw [sum_cW]; congr 1; omega) (by omega) ?_ (fun H => by rw [all_cW]; exact row_noSpace hr)
 ·intro p hp
  obtain ⟨c, _, rfl⟩ := List.mem_map.mp hp
  cases c <;> exact ⟨by decide, by decide⟩
 ·have : ∀ r : List Bool, ((r.map cW).map fun p => (oneStr p).length).sum = 3 * r.length := fun r => by
   induction r with
   | nil => rfl
   | cons c r ih =>
    have e1 : (oneStr (cW c)).length = 3 := by
     show (oneStr (cW c)).cps.toList.length = 3
     rw [one_cW]
     rfl
    rw [List.map_cons, List.map_cons, List.sum_cons, ih, e1, List.length_cons]
    omega
  rw [this, List.length_map]
  omega
theorem tailS {r : List Bool} (hr : r ≠ []) (hl : r.length ≤ 30) (hL : L.length ≤ 900) : F56 [.ref 0] (HA M ch L (cS r) 0) = some (.none, HA M ch (L ++ [rowS r]) [] 0) := by
 obtain ⟨r0, b, e⟩ := last_split hr
 have h1 : 0 < r.length := List.length_pos_iff.mpr hr
 have hcl : ∀ r : List Bool, (cS r).length = 2 * r.length := fun r => by
  induction r with
  | nil => rfl
  | cons c r ih =>
   unfold cS at ih ⊢
   rw [List.flatMap_cons, List.length_append, ih, List.length_cons]
   simp only [List.length_cons, List.length_nil]
   omega
 rw [← all_cS r]
 refine s56g (c0 := cS r0 ++ [((" " : Str), ("" : Str))]) (p := (("" : Str), wdS b)) (n := 3 * r.length - 1) hL (by rw [e]; unfold cS; rw [List.flatMap_append]; simp) (by rw [hcl]; omega) (fun H => ne_s2 b) ?_ (by rw [sum_cS]; congr 1; omega) (by omega) ?_ (fun H => by rw [all_cS]; exact row_noSpace hr)
 ·intro p hp
  unfold cS at hp
  obtain ⟨c, _, hp⟩ := List.mem_flatMap.mp hp
  rcases List.mem_cons.mp hp with rfl | hp
  ·exact ⟨by decide, by decide⟩
  ·rw [List.mem_singleton.mp hp]
   cases c <;> exact ⟨by decide, by decide⟩
 ·have : ∀ r : List Bool, ((cS r).map fun p => (oneStr p).length).sum = 3 * r.length := fun r => by
   induction r with
   | nil => rfl
   | cons c r ih =>
    have e1 : (oneStr ("", wdS c)).length = 2 := by
     show (oneStr ("", wdS c)).cps.toList.length = 2
     rw [one_s2]
     rfl
    have e2 : (oneStr (" ", "")).length = 1 := by
     show (oneStr (" ", "")).cps.toList.length = 1
     rw [one_s1]
     rfl
    unfold cS at ih ⊢
    rw [List.flatMap_cons, List.map_append, List.sum_append, ih, List.map_cons, List.map_cons, List.sum_cons, List.sum_cons, e1, e2, List.length_cons]
    simp only [List.map_nil, List.sum_nil]
    omega
  rw [this, hcl]
  omega
@[elab_as_elim] theorem k32 {P : Nat → Bool → Bool → Prop} (k : Nat) (m b : Bool) (hk : k ≤ 7) (h : (P 0 false false ∧ P 0 false true ∧ P 0 true false ∧ P 0 true true) ∧ (P 1 false false ∧ P 1 false true ∧ P 1 true false ∧ P 1 true true) ∧ (P 2 false false ∧ P 2 false true ∧ P 2 true false ∧ P 2 true true) ∧ (P 3 false false ∧ P 3 false true ∧ P 3 true false ∧ P 3 true true) ∧ (P 4 false false ∧ P 4 false true ∧ P 4 true false ∧ P 4 true true) ∧ (P 5 false false ∧ P 5 false true ∧ P 5 true false ∧ P 5 true true) ∧ (P 6 false false ∧ P 6 false true ∧ P 6 true false ∧ P 6 true true) ∧ (P 7 false false ∧ P 7 false true ∧ P 7 true false ∧ P 7 true true) ∧ True) : P k m b :=
 have e : P k false false ∧ P k false true ∧ P k true false ∧ P k true true := le7 (P := fun k => P k false false ∧ P k false true ∧ P k true false ∧ P k true true) k (Nat.lt_succ_of_le hk) h
 match m, b with
 | false, false => e.1
 | false, true => e.2.1
 | true, false => e.2.2.1
 | true, true => e.2.2.2
theorem stay91 {m : Bool} {k : Nat} {b : Bool} (hk : k ≤ 7) : F91 [.ref 0, .str " ", .str (wdS b)] (HA 0 (sgS m) L ((curL m k false).map cW) 0) = some (.none, HA 0 (sgS m) L ((curL m k false ++ [b]).map cW) 0) := by
 refine k32 k m b hk ?_; and_intros <;> first | exact trivial | kernel_rfl!
theorem cut91 {m : Bool} {k : Nat} {b : Bool} (hk : k ≤ 7) (hL : L.length ≤ 900) : F91 [.ref 0, .str " ", .str (wdS b)] (HA 0 (sgS m) L ((curL m k true).map cW) 0) = some (.none, HA 0 (sgS m) (L ++ [rowS (curL m k true)]) [cW b] 0) := by
 have al : ∀ (cur : List (Str × Str)) (l : Loc), attrF (nmF 0) 94 "_lines" (some (.ref 0) :: l) (HA 0 (sgS m) L cur 0) = some (.ref 1, HA 0 (sgS m) L cur 0) := fun _ _ => by kernel_rfl!
 have ac : ∀ (cur : List (Str × Str)) (l : Loc), attrF (nmF 0) 94 "_current_line" (some (.ref 0) :: l) (HA 0 (sgS m) L cur 0) = some (.ref 2, HA 0 (sgS m) L cur 0) := fun _ _ => by kernel_rfl!
 unfold F91 P91
 dsimp only
 refine body_next (ab := [(("self" : Str), .ref 0), (("fws" : Str), .str " "), (("string" : Str), .str (wdS b))]) (l0 := [some (.ref 0), some (.str " "), some (.str (wdS b)), none, none, none, none, none]) (l := [some (.ref 0), some (.str " "), some (.str (wdS b)), some (sgV m), some (iN (k + 1)), some (.str (wdS m)), none, some (.lst [prV (cW b)])]) rfl rfl
  (seq_next (l' := [some (.ref 0), some (.str " "), some (.str (wdS b)), none, none, none, none, none]) (h' := HA 0 (sgS m) L ((curL m k true).map cW ++ [cW b]) 0) ?s1 (seq_next (l' := [some (.ref 0), some (.str " "), some (.str (wdS b)), some (sgV m), some (iN (k + 1)), some (.str (wdS m)), none, some (.lst [prV (cW b)])]) (h' := HA 0 (sgS m) (L ++ [rowS (curL m k true)]) [cW b] 0)
   (if_true' (h' := HA 0 (sgS m) L ((curL m k true).map cW ++ [cW b]) 0) ?s2 (seq_next (l' := [some (.ref 0), some (.str " "), some (.str (wdS b)), some (sgV m), some (iN (k + 1)), some (.str (wdS m)), none, none]) (h' := HA 0 (sgS m) L ((curL m k true).map cW ++ [cW b]) 0) ?s3 (seq_next (l' := [some (.ref 0), some (.str " "), some (.str (wdS b)), some (sgV m), some (iN (k + 1)), some (.str (wdS m)), none, some (.lst [prV (cW b)])]) (h' := HA 0 (sgS m) L ((curL m k true).map cW) 0) ?s4
    (seq_next (l' := [some (.ref 0), some (.str " "), some (.str (wdS b)), some (sgV m), some (iN (k + 1)), some (.str (wdS m)), none, some (.lst [prV (cW b)])]) (h' := HA 0 (sgS m) (L ++ [rowS (curL m k true)]) ((curL m k true).map cW) 0) (expr_run (v := .none) (meth_run (a := .ref 1) (h1 := HA 0 (sgS m) L ((curL m k true).map cW) 0) (al _ _) rfl (cons_run (a := .str (rowS (curL m k true))) (h1 := HA 0 (sgS m) L ((curL m k true).map cW) 0) (call_run (cons_run (ac _ _) rfl) ?s5) rfl) ?s6)) (seq_next (l' := [some (.ref 0), some (.str " "), some (.str (wdS b)), some (sgV m), some (iN (k + 1)), some (.str (wdS m)), none, some (.lst [prV (cW b)])]) (h' := HA 0 (sgS m) (L ++ [rowS (curL m k true)]) [cW b] 0) ?s7 rfl))))) rfl))
 case s5 =>
  rw [← all_cW (curL m k true)]
  refine str_acc rfl ?_ ?_
  ·intro p hp
   obtain ⟨c, _, rfl⟩ := List.mem_map.mp hp
   cases c <;> exact ⟨by decide, by decide⟩
  ·have : ∀ r : List Bool, ((r.map cW).map fun p => (oneStr p).length).sum = 3 * r.length := fun r => by
    induction r with
    | nil => rfl
    | cons c r ih =>
     have e1 : (oneStr (cW c)).length = 3 := by
      show (oneStr (cW c)).cps.toList.length = 3
      rw [one_cW]
      rfl
     rw [List.map_cons, List.map_cons, List.sum_cons, ih, e1, List.length_cons]
     omega
   rw [this, List.length_map]
   unfold curL
   simp
   omega
 case s6 =>
  rw [app_run (i := 1) (xs := L.map V.str) rfl (by rw [List.length_map]; omega)]
  simp
 all_goals
  clear al ac hL
  refine k32 k m b hk ?_; and_intros <;> first | exact trivial | kernel_rfl!
end
end
end
section
section
noncomputable def chS (w : List Bool) : List V := w.flatMap fun b => [V.tup [.str " ", .str ""], .tup [.str "", .str (wdS b)]]
noncomputable def lopL (X : V) (w : List Bool) (r st hd : Nat) := loopF tf217 B217 nilF (chS w) [some X, some (iN (3 * hd)), some (iN (3 * st + r)), some (.str " "), some (.ref 0), none, none, none] (HA ((3 * st + r : Nat) : Int) " " [] [] ((3 * hd : Nat) : Int))
noncomputable def lopR (X : V) (b7 : Bool) (w : List Bool) (r st hd : Nat) : Option (FL × Loc × List AO) := some (.next, [some X, some (iN (3 * hd)), some (iN (3 * st + r)), some (.str " "), some (.ref 0), some (.str ""), some (.str (wdS b7)), none], HA ((3 * st + r : Nat) : Int) " " ((rowsW st hd w).dropLast.map rowS) (cS ((rowsW st hd w).getLast?.getD [])) 0)
theorem loopS {w : List Bool} {st hd r : Nat} {X : V} (hw : w.length = 8) (h2 : 2 ≤ st) (h4 : st ≤ 4) (hh : hd ≤ st) (hr : r ≤ 2) :
  ∃ a5 a6, loopF tf217 B217 nilF (chS w) [some X, some (iN (3 * hd)), some (iN (3 * st + r)), some (.str " "), some (.ref 0), none, none, none] (HA ((3 * st + r : Nat) : Int) " " [] [] ((3 * hd : Nat) : Int)) =
   some (.next, [some X, some (iN (3 * hd)), some (iN (3 * st + r)), some (.str " "), some (.ref 0), a5, a6, none], HA ((3 * st + r : Nat) : Int) " " ((rowsW st hd w).dropLast.map rowS) (cS ((rowsW st hd w).getLast?.getD [])) 0) := by
 obtain ⟨b0, b1, b2, b3, b4, b5, b6, b7, rfl⟩ := len8 hw
 refine ⟨some (.str ""), some (.str (wdS b7)), ?_⟩
 show lopL X [b0, b1, b2, b3, b4, b5, b6, b7] r st hd = lopR X b7 [b0, b1, b2, b3, b4, b5, b6, b7] r st hd
 clear hw
 obtain rfl | rfl | rfl : r = 0 ∨ r = 1 ∨ r = 2 := by omega
 all_goals refine st12 st hd h2 h4 hh ⟨?_, ?_, ?_, ?_, ?_, ?_, ?_, ?_, ?_, ?_, ?_, ?_, trivial⟩ <;> kernel_rfl!
end
end
section
section
section
variable {loc : Loc} {H H' : List AO} {M : Int} {ch : Str} {L : List Str} {cur c0 : List (Str × Str)} {z : Int}
theorem b217_run {L2 : List Str} {cur2 : List (Str × Str)} {z2 : Int} {a b : V} {X Y W0 C : Option V} (e : F91 [.ref 0, a, b] (HA M ch L cur z) = some (.none, HA M ch L2 cur2 z2)) : B217 [X, Y, W0, C, some (.ref 0), some a, some b, none] (HA M ch L cur z) = some (.next, [X, Y, W0, C, some (.ref 0), some a, some b, none], HA M ch L2 cur2 z2) :=
 seq_next (h' := HA M ch L2 cur2 z2) (if_skip (test_run (h1 := HA M ch L2 cur2 z2) (bin_run (a := .none) (b := .none) (h1 := HA M ch L2 cur2 z2) (h2 := HA M ch L2 cur2 z2) (meth_run (a := .ref 0) rfl (by kernel_rfl!) (cons_run rfl (cons_run rfl rfl)) e) rfl (p2_run (v := .bool false) rfl)) rfl)) rfl
theorem curL_not {m b : Bool} (h : (b == m) = false) (k : Nat) : curL m k false ++ [b] = curL m (k + 1) false := by
 have : b = !m := by cases b <;> cases m <;> first | rfl | cases h
 subst this
 unfold curL
 simp [List.replicate_succ']
theorem curL_is {m b : Bool} (h : (b == m) = true) (k : Nat) : curL m k false ++ [b] = curL m k true := by
 have : b = m := by cases b <;> cases m <;> first | rfl | cases h
 subst this
 unfold curL
 simp
theorem loopAB {m : Bool} {X Y W0 : Option V} (r : List Bool) : ∀ (k : Nat) (e : Bool) (R : List (List Bool)) (a5 a6 : Option V), k + r.length ≤ 8 → R.length + r.length ≤ 100 →
  ∃ a5' a6', loopF tf217 B217 nilF (r.map chAB) [X, Y, W0, some (sgV m), some (.ref 0), a5, a6, none] (HA 0 (sgS m) (R.map rowS) ((curL m k e).map cW) 0) =
   some (.next, [X, Y, W0, some (sgV m), some (.ref 0), a5', a6', none], HA 0 (sgS m) ((R ++ cutP m k e r).map rowS) ((endP m k e r).map cW) 0) := by
 induction r with
 | nil => exact fun k e R a5 a6 _ _ => ⟨a5, a6, by rw [cutP, endP, List.append_nil]; rfl⟩
 | cons b r ih =>
  intro k e R a5 a6 hk hR
  have hk : k + r.length + 1 ≤ 8 := hk
  have hR : R.length + r.length + 1 ≤ 100 := hR
  have key : ∀ (k' : Nat) (e' : Bool) (R' : List (List Bool)), F91 [.ref 0, .str " ", .str (wdS b)] (HA 0 (sgS m) (R.map rowS) ((curL m k e).map cW) 0) = some (.none, HA 0 (sgS m) (R'.map rowS) ((curL m k' e').map cW) 0) → k' ≤ k + 1 → R'.length ≤ R.length + 1 → R ++ cutP m k e (b :: r) = R' ++ cutP m k' e' r → endP m k e (b :: r) = endP m k' e' r →
    ∃ a5' a6', loopF tf217 B217 nilF ((b :: r).map chAB) [X, Y, W0, some (sgV m), some (.ref 0), a5, a6, none] (HA 0 (sgS m) (R.map rowS) ((curL m k e).map cW) 0) = some (.next, [X, Y, W0, some (sgV m), some (.ref 0), a5', a6', none], HA 0 (sgS m) ((R ++ cutP m k e (b :: r)).map rowS) ((endP m k e (b :: r)).map cW) 0) :=
   fun k' e' R' e1 h1 h2 h3 h4 => (ih k' e' R' (some (.str " ")) (some (.str (wdS b))) (by omega) (by omega)).imp fun a5' z => z.imp fun a6' z => by
    rw [h3, h4]
    exact loop_step (l1 := [X, Y, W0, some (sgV m), some (.ref 0), some (.str " "), some (.str (wdS b)), none]) rfl (b217_run e1) z
  cases e with
  | false =>
   have e1 := stay91 (L := R.map rowS) (m := m) (k := k) (b := b) (by omega)
   cases q : b == m with
   | true => exact key k true R (curL_is q k ▸ e1) (Nat.le_succ _) (Nat.le_succ _) (by rw [cutP, if_pos q]) (by rw [endP, if_pos q])
   | false => exact key (k + 1) false R (curL_not q k ▸ e1) (Nat.le_refl _) (Nat.le_succ _) (by rw [cutP, if_neg (Bool.eq_false_iff.mp q)]) (by rw [endP, if_neg (Bool.eq_false_iff.mp q)])
  | true =>
   have e1 := cut91 (L := R.map rowS) (m := m) (k := k) (b := b) (by omega) (by rw [List.length_map]; omega)
   have e0 : R.map rowS ++ [rowS (curL m k true)] = (R ++ [curL m k true]).map rowS := by rw [List.map_append]; rfl
   have hl : (R ++ [curL m k true]).length ≤ R.length + 1 := Nat.le_of_eq List.length_append
   rw [e0] at e1
   cases q : b == m with
   | true => exact key 0 true (R ++ [curL m k true]) (e1.trans (by rw [show [cW b] = (curL m 0 true).map cW by rw [← curL_is q]; rfl])) (Nat.zero_le _) hl (by rw [cutP, if_pos q, List.append_assoc]; rfl) (by rw [endP, if_pos q])
   | false => exact key 1 false (R ++ [curL m k true]) (e1.trans (by rw [show [cW b] = (curL m 1 false).map cW by rw [← curL_not q]; rfl])) (Nat.le_add_left 1 k) hl (by rw [cutP, if_neg (Bool.eq_false_iff.mp q), List.append_assoc]; rfl) (by rw [endP, if_neg (Bool.eq_false_iff.mp q)])
theorem rows_len (R : List (List Bool)) : ((R.map rowS).map (·.length)).sum = 3 * R.flatten.length := by
 induction R with
 | nil => rfl
 | cons r R ih =>
  rw [List.map_cons, List.map_cons, List.sum_cons, ih, List.flatten_cons, List.length_append, show (rowS r).length = 3 * r.length from rowL_len r]
  omega
theorem sAB {m : Bool} {w : List Bool} (hw : w.length = 8) (h1 : endP m 0 false w ≠ []) (h2 : (endP m 0 false w).length ≤ 30) (h3 : (partP m w).flatten = w) (h4 : (partP m w).length ≤ 100) :
  frameG F217 [.lst (w.map chAB), .int 0, .int 0, sgV m] H = some (.lst ((partP m w).map fun r => .str (rowS r)), H) := by
 obtain ⟨a5, a6, e⟩ := loopAB (m := m) (X := some (.lst (w.map chAB))) (Y := some (.int 0)) (W0 := some (.int 0)) w 0 false [] none none (by omega) (by simp; omega)
 have hc : (cutP m 0 false w).length ≤ 100 := by
  have := congrArg List.length (show partP m w = _ from rfl)
  rw [partP, List.length_append] at h4
  omega
 have := s217 (H := H) (chunks := w.map chAB) (head := 0) (width := 0) (ch := sgS m) (a5 := a5) (a6 := a6) (L2 := (partP m w).map rowS) e (by
  have := tailAB (M := 0) (ch := sgS m) (L := (cutP m 0 false w).map rowS) h1 h2 (by rw [List.length_map]; omega)
  have e6 : (partP m w).map rowS = (cutP m 0 false w).map rowS ++ [rowS (endP m 0 false w)] := by unfold partP; rw [List.map_append]; rfl
  rw [e6, List.nil_append]
  exact this) (by unfold partP; simp) (fun p hp => by
   obtain ⟨r, _, rfl⟩ := List.mem_map.mp hp
   exact row_bar r) (by rw [join_rows]; exact row_ok _) (by rw [rows_len, h3, List.length_map]; omega) (by
   rw [List.all_map]
   exact List.all_eq_true.mpr fun _ _ => rfl)
 rw [List.map_map] at this
 exact this
theorem sS {w : List Bool} {st hd r : Nat} (hw : w.length = 8) (h2 : 2 ≤ st) (h4 : st ≤ 4) (hh : hd ≤ st) (hr : r ≤ 2) (g1 : (rowsW st hd w).getLast?.getD [] ≠ []) (g2 : ((rowsW st hd w).getLast?.getD []).length ≤ 30) (g3 : (rowsW st hd w).flatten = w) (g4 : (rowsW st hd w).length ≤ 100) (g5 : rowsW st hd w = (rowsW st hd w).dropLast ++ [(rowsW st hd w).getLast?.getD []]) :
  frameG F217 [.lst (chS w), iN (3 * hd), iN (3 * st + r), .str " "] H = some (.lst ((rowsW st hd w).map fun r => .str (rowS r)), H) := by
 obtain ⟨a5, a6, e⟩ := loopS (r := r) (X := .lst (chS w)) hw h2 h4 hh hr
 have := s217 (H := H) (chunks := chS w) (a5 := a5) (a6 := a6) (L2 := (rowsW st hd w).map rowS) e (by
  have := tailS (M := ((3 * st + r : Nat) : Int)) (ch := " ") (L := (rowsW st hd w).dropLast.map rowS) g1 g2 (by rw [List.length_map, List.length_dropLast]; omega)
  rw [show (rowsW st hd w).map rowS = (rowsW st hd w).dropLast.map rowS ++ [rowS ((rowsW st hd w).getLast?.getD [])] by conv => lhs; rw [g5, List.map_append, List.map_singleton]]
  exact this) (by rw [g5]; simp) (fun p hp => by
   obtain ⟨r, _, rfl⟩ := List.mem_map.mp hp
   exact row_bar r) (by rw [join_rows]; exact row_ok _) (by rw [rows_len, g3, List.length_map]; omega) (by
   refine List.all_eq_true.mpr fun v hv => ?_
   unfold chS at hv
   obtain ⟨b, _, hv⟩ := List.mem_flatMap.mp hv
   rcases List.mem_cons.mp hv with rfl | hv
   ·rfl
   ·rw [List.mem_singleton.mp hv]; rfl)
 rw [List.map_map] at this
 exact this
end
end
end
section
section
section
variable {loc : Loc} {H H' : List AO} {α : Type}
theorem low_mono (k : Nat) : ∀ (k' m n : Nat) (v : V), k ≤ k' → m ≤ n → lowV m k v = true → lowV n k' v = true := by
 induction k with
 | zero => exact fun _ _ _ _ _ _ => nf
 | succ k ih =>
  intro k' m n v hk hm
  cases k' with
  | zero => exact absurd hk (Nat.not_succ_le_zero _)
  | succ k' =>
   have all : ∀ xs : List V, xs.all (lowV m k) = true → xs.all (lowV n k') = true := fun xs h => List.all_eq_true.mpr fun x hx => ih k' m n x (Nat.le_of_succ_le_succ hk) hm (List.all_eq_true.mp h x hx)
   exact V.casesOn (motive_1 := fun v => lowV m (k + 1) v = true → lowV n (k' + 1) v = true) v (fun _ => rfl) (fun _ _ => rfl) (fun _ _ => rfl) (fun _ _ => rfl) all all (fun i h => decide_eq_true (Nat.lt_of_lt_of_le (of_decide_eq_true h) hm)) (fun _ _ _ => rfl) (fun _ _ => rfl) fun _ _ => rfl
end
end
end
section
section
noncomputable def nzS (x : Str) : Bool := !Nat.beq x.cps.toList.length 0
section
variable {loc : Loc} {H H' : List AO}
theorem ne_empty {x : Str} (h : PyData.strOk x = true) : neF H (.str x) (.str "") = some (.bool (nzS x), H) := by
 have hs : SeqAt.shaped (.str x) = true := Bool.and_eq_true_iff.mpr ⟨by rw [PyData.canLay0]; exact h, decide_eq_true (by rw [PyData.depth]; exact Nat.zero_le _)⟩
 refine eqG_run (show toD H 8 (.str x) = some (.str x) from rfl) (show toD H 8 (.str "") = some (.str "") from rfl) hs (by kernel_rfl!) ?_
 rw [PyData.eqv]
 unfold nzS
 refine congrArg not ?_
 by_cases q : x = ""
 ·subst q; rfl
 ·rw [beq_eq_false_iff_ne.mpr q]
  exact (Bool.eq_false_iff.mpr fun e => q (str_ext (List.length_eq_zero_iff.mp (Nat.eq_of_beq_eq_true e)))).symm
theorem split_run {t w : Str} (ht : (repV t w).length ≤ 900) : splitF [.str (repV t w), .str "|"] H = some (.lst ((Txt.split (repV t w) "|").map V.str), H) := by
 have hy := parts_len (repV t w) "|" (by decide)
 exact call2_run (bind_of (o := V.str? (.str (repV t w))) rfl (bind_of (o := V.str? (.str "|")) rfl (if_pos ⟨by decide, by omega, by omega⟩)))
theorem inner_run {t w : Str} (hw : (w.length ≤ 10 ∧ (w.length == 0) = false) ∧ t.length ≤ 1000 ∧ (w == w ++ ("|" : Str)) = false) (ht : (repV t w).length ≤ 900) (hok : ∀ x ∈ Txt.split (repV t w) "|", PyData.strOk x = true) (hl : (Txt.split (repV t w) "|").length ≤ 1000) (hH : H.all (lowO H.length) = true) :
  innerG (fun v loc => some (loc.set 0 (some v))) (testF (binF (fun loc H => Option.map (fun x => (x, H)) loc[0]?.join) (fun x H => some (V.str "", H)) neF)) (fun i => emitF i fun loc H => Option.map (fun x => (x, H)) loc[0]?.join) ["row"] t w H = some (.lst (((Txt.split (repV t w) "|").filter nzS).map V.str), H) := by
 refine (if_pos hw).trans (bind_of (split_run ht) (bind_of (o := itemsV (.lst ((Txt.split (repV t w) "|").map V.str))) rfl ?_))
 refine (compM_run (H := H) (tests := testF (binF (fun loc H => Option.map (fun x => (x, H)) loc[0]?.join) (fun x H => some (V.str "", H)) neF)) (f := fun loc H => Option.map (fun x => (x, H)) loc[0]?.join) (cap := []) V.str nzS V.str (Txt.split (repV t w) "|") [] none (fun y h => absurd h List.not_mem_nil)
  (fun x hx ys _ => test_run (bin_run (a := .str x) rfl rfl (ne_empty (hok x hx))) rfl) (fun _ _ _ _ _ => rfl) (fun _ _ _ => rfl) (Nat.le_trans (Nat.le_of_eq (Nat.zero_add _)) hl)).elim fun q' e => ?_
 exact bind_of (congrArg (Option.map fun r => (V.ref H.length, r.2)) e.2) (frz_end (fun v hv => (List.mem_map.mp hv).elim fun x z => z.2 ▸ rfl) hH)
noncomputable def Parts (m : Bool) (w : List Bool) : Prop := ((Txt.split (repV (rowS w) (wdS m)) "|").filterMap fun x => cond (Nat.beq x.cps.toList.length 0) none (some x.cps.toList)) = (partP m w).map rowL
theorem parts_filter {S : List Str} {R : List (List Bool)} (h : (S.filterMap fun x => cond (Nat.beq x.cps.toList.length 0) none (some x.cps.toList)) = R.map rowL) : S.filter nzS = R.map rowS ∧ ∀ x ∈ S, PyData.strOk x = true := by
 have h1 : (S.filter nzS).map (fun x => x.cps.toList) = R.map rowL := by
  rw [← h]
  clear h
  induction S with
  | nil => rfl
  | cons x S ih =>
   rw [List.filter_cons, List.filterMap_cons]
   cases q : Nat.beq x.cps.toList.length 0 with
   | true =>
    rw [if_neg (by unfold nzS; rw [q]; simp)]
    exact ih
   | false =>
    rw [if_pos (by unfold nzS; rw [q]; rfl), List.map_cons, ih]
    rfl
 have h2 : S.filter nzS = R.map rowS := by
  have : ∀ (A : List Str) (R : List (List Bool)), A.map (fun x => x.cps.toList) = R.map rowL → A = R.map rowS := fun A => by
   induction A with
   | nil => intro R e; cases R with
    | nil => rfl
    | cons r R => cases e
   | cons a A ih => intro R e; cases R with
    | nil => cases e
    | cons r R =>
     rw [List.map_cons, List.map_cons] at e
     obtain ⟨e1, e2⟩ := List.cons.inj e
     rw [List.map_cons, ih R e2, str_ext (a := a) (b := rowS r) e1]
  exact this _ _ h1
 refine ⟨h2, fun x hx => ?_⟩
 cases q : nzS x with
 | true =>
  have : x ∈ S.filter nzS := List.mem_filter.mpr ⟨hx, q⟩
  rw [h2] at this
  obtain ⟨r, _, rfl⟩ := List.mem_map.mp this
  exact row_ok r
 | false =>
  have : x = "" := by
   unfold nzS at q
   have q2 : Nat.beq x.cps.toList.length 0 = true := by
    cases e : Nat.beq x.cps.toList.length 0 with
    | true => rfl
    | false => rw [e] at q; cases q
   exact str_ext (List.length_eq_zero_iff.mp (Nat.eq_of_beq_eq_true q2))
  rw [this]
  kernel_rfl!
theorem sOut {w : List Bool} (hw : w.length = 8) (hp : ∀ m, Parts m w) (hl : ∀ m, (repV (rowS w) (wdS m)).length ≤ 900) (h5 : loc.getD 5 none = some (.str (rowS w))) :
  outF 1 (fun v loc => some (loc.set 0 (some v))) (testF (binF (fun loc H => Option.map (fun x => (x, H)) loc[0]?.join) (fun x H => some (V.str "", H)) neF)) (fun i => emitF i fun loc H => Option.map (fun x => (x, H)) loc[0]?.join) ["row"] 5 loc [] =
   some (.lst ([false, true].map fun m => .lst ((partP m w).map fun r => .str (rowS r))), []) := by
 have hf : ∀ m ∈ [false, true], true = true → ∀ ys : List V, (∀ y ∈ ys, lowV 0 7 y = true) → innerTF 3 (fun v loc => some (loc.set 0 (some v))) (testF (binF (fun loc H => Option.map (fun x => (x, H)) loc[0]?.join) (fun x H => some (V.str "", H)) neF)) (fun i => emitF i fun loc H => Option.map (fun x => (x, H)) loc[0]?.join) [("row" : Str)] (some (V.tok (.str (wdS m) (cond m 2 1))) :: [some (.str (rowS w))]) ([] ++ [.list ys]) = some (.lst ((partP m w).map fun r => .str (rowS r)), [] ++ [.list ys]) := fun m _ _ ys hy => by
  obtain ⟨f1, f2⟩ := parts_filter (hp m)
  have e2 : innerTF 3 (fun v loc => some (loc.set 0 (some v))) (testF (binF (fun loc H => Option.map (fun x => (x, H)) loc[0]?.join) (fun x H => some (V.str "", H)) neF)) (fun i => emitF i fun loc H => Option.map (fun x => (x, H)) loc[0]?.join) [("row" : Str)] (some (V.tok (.str (wdS m) (cond m 2 1))) :: [some (.str (rowS w))]) ([] ++ [.list ys]) =
    if 0 < cond m 2 1 ∧ cond m 2 1 < 3 then innerG (fun v loc => some (loc.set 0 (some v))) (testF (binF (fun loc H => Option.map (fun x => (x, H)) loc[0]?.join) (fun x H => some (V.str "", H)) neF)) (fun i => emitF i fun loc H => Option.map (fun x => (x, H)) loc[0]?.join) ["row"] (rowS w) (wdS m) ([] ++ [.list ys]) else none := rfl
  rw [e2, if_pos (by cases m <;> decide), inner_run ⟨by cases m <;> exact ⟨by decide, by decide⟩, by show (rowS w).length ≤ 1000; rw [show (rowS w).length = 3 * w.length from rowL_len w]; omega, by cases m <;> kernel_rfl!⟩ (hl m) f2 ?_ ?_, f1, List.map_map]
  ·rfl
  ·have := parts_len (repV (rowS w) (wdS m)) "|" (by decide)
   have h9 := hl m
   unfold Txt.split
   split
   ·simp
   ·split
    ·simp
    ·exact Nat.le_trans this (by omega)
  ·show (ys.all (lowV 1 8) && true) = true
   rw [List.all_eq_true.mpr fun y h => low_mono 7 8 0 1 y (by omega) (by omega) (hy y h)]
   rfl
 have hlow : ∀ m, ((partP m w).map fun r => V.str (rowS r)).all (lowV 0 6) = true := fun m => List.all_eq_true.mpr fun v hv => (List.mem_map.mp hv).elim fun x z => z.2 ▸ rfl
 refine (compM_run (H := []) (tests := fun _ H => some (true, H)) (f := innerTF 3 (fun v loc => some (loc.set 0 (some v))) (testF (binF (fun loc H => Option.map (fun x => (x, H)) loc[0]?.join) (fun x H => some (V.str "", H)) neF)) (fun i => emitF i fun loc H => Option.map (fun x => (x, H)) loc[0]?.join) ["row"]) (cap := [some (.str (rowS w))])
  (fun m : Bool => V.tok (.str (wdS m) (cond m 2 1))) (fun _ => true) (fun m => .lst ((partP m w).map fun r => .str (rowS r))) [false, true] [] none (fun y h => absurd h List.not_mem_nil) (fun _ _ _ _ => rfl) hf (fun m _ _ => hlow m) (by decide)).elim fun q' e => ?_
 have e1 : ([false, true].map fun m : Bool => V.tok (.str (wdS m) (cond m 2 1))) = [.tok (.str "ba" 1), .tok (.str "ab" (1 + 1))] := by kernel_rfl!
 have e0 : cLoc loc [("word" : Str)] [5] = [none, some (.str (rowS w))] := by rw [← h5]; rfl
 have e2 := e1 ▸ e0 ▸ e.2
 refine bind_of (congrArg (Option.map fun r => (V.ref 0, r.2)) e2) ?_
 exact (frz_end (H := []) (zs := [false, true].map fun m => .lst ((partP m w).map fun r => .str (rowS r))) (fun v hv => (List.mem_map.mp hv).elim fun m z => by rw [← z.2]; exact hlow m) rfl)
end
end
end
section
section
noncomputable def greatP (st hd : Nat) (w : List Bool) : List Nat := (colsP st hd w).flatMap fun c => (hooksP c).map (st * ·)
structure GoodW (w : List Bool) : Prop where
 len : w.length = 8
 A : ∀ m, (partP m w).flatten = w ∧ (partP m w).length ≤ 100 ∧ (∀ r ∈ partP m w, 0 < r.length ∧ r.length ≤ 30) ∧ endsP m 0 (partP m w) = posP m 0 w
 R : ∀ m, Parts m w
 L : ∀ m, (repV (rowS w) (wdS m)).length ≤ 900
 H : (∀ x ∈ hooksP w, 0 < x ∧ x ≤ 7) ∧ (hooksP w).length ≤ 40
 L4 : frzG F244 [natsV (posP false 0 w), natsV (posP true 0 w)] [] = some (natsV (hooksP w), [])
structure GoodS (st hd : Nat) (w : List Bool) : Prop where
 h2 : 2 ≤ st
 h4 : st ≤ 4
 hh : hd ≤ st
 U : unordP (hooksP w).reverse [] (9 :: greatP st hd w ++ [8, 10]) = ((hooksP w).reverse.filter (fun s => !Nat.beq (s % st) 0), [9, 8, 10])
 E : ∀ x ∈ greatP st hd w, x ≤ 7
 N : (greatP st hd w).length = invP st w
 C : ∀ c ∈ colsP st hd w, c.length ≤ 20 ∧ (hooksP c).length ≤ 100
 X : invP st w < 10
 F : ∀ w : List Bool, w.length = 8 → (placesP st w = [] → invP st w = 0 ∧ dueP st w = w) ∧ ∀ k ∈ placesP st w, (swapP st k w).length = 8 ∧ invP st (swapP st k w) + 1 = invP st w ∧ dueP st (swapP st k w) = dueP st w
section
variable {loc : Loc} {H H' : List AO}
theorem fmod_int {p : Int} {m r : Nat} (h : 0 < m) (h2 : m ≤ 1000) (e : p.fmod m = (r : Int)) : fmodV (.int p) (iN m) = some (iN r) := by
 show (if (0 : Int) < (m : Int) ∧ (m : Int) < 2 ^ 40 then some (V.int (p.fmod m)) else none) = _
 rw [if_pos ⟨by omega, by have : ((2 : Int) ^ 40) = 1099511627776 := (by decide); omega⟩, e]
theorem mulI_run {a b : Int} (h : -(2 ^ 40) < b ∧ b < 2 ^ 40) : mulI (.int a) (.int b) = some (.int (a * b)) := if_pos h
theorem mul_nat (a n : Nat) (hn : n ≤ 1000) : mulV (iN a) (iN n) = some (iN (a * n)) := by
 have h40 : ((2 : Int) ^ 40) = 1099511627776 := by decide
 rw [mulV, orl (mulI_run ⟨by omega, by omega⟩)]
 rfl
noncomputable def dueS (b : Bool) : Str := cond b " b" " a"
theorem due_one (b : Bool) : dueS b = Txt.join eStr [" ", sgS b] := by cases b <;> kernel_rfl!
theorem join_due (w : List Bool) : Txt.join "" (w.map dueS) = strW w := by
 unfold strW
 rw [show (("" : Str)) = eStr from by kernel_rfl!]
 congr 1
 exact List.map_congr_left fun b _ => due_one b
theorem strW_ok (w : List Bool) : PyData.strOk (strW w) = true := by
 have e : (strW w).cps.toList = w.flatMap fun b => [32, cond b 98 97] := by
  unfold strW
  rw [join_list, List.flatMap_map]
  congr 1
 unfold PyData.strOk
 rw [← Array.all_toList, e]
 induction w with
 | nil => rfl
 | cons b w ih =>
  rw [List.flatMap_cons, List.all_append, ih (by
   unfold strW
   rw [join_list, List.flatMap_map]
   congr 1)]
  cases b <;> rfl
theorem or_ff {t u : TF} {l : Loc} {h h1 h2 : List AO} (e1 : t l h = some (false, h1)) (e2 : u l h1 = some (false, h2)) : orF t u l h = some (false, h2) := by
 unfold orF
 rw [e1]
 simp only [bs, Bool.false_eq_true, if_false]
 exact e2
theorem ne_int (a b : Int) : neF H (.int a) (.int b) = some (.bool (!(a == b)), H) := rfl
theorem ne_nat0 (a : Nat) : neF H (iN a) (.int 0) = some (.bool (!Nat.beq a 0), H) := by
 rw [ne_int]
 congr 3
 cases a <;> rfl
theorem count_sgB (w : List Bool) : countF [.lst (w.map sgV), .str "b"] H = some (iN (cntT w), H) := by
 have e : ∀ w : List Bool, (w.filter id).length = cntT w := fun w => by
  induction w with
  | nil => rfl
  | cons b w ih => cases b <;> simp [cntT, ih]
 exact e w ▸ count_run sgS "b" id (fun b => by cases b <;> kernel_rfl!) w
theorem slice_step {xs : List V} {f : EF} {p q r : PF} {l : Loc} {lo hi : Option Int} {s : Nat} (e1 : f l H = some (.lst xs, H)) (e2 : p l H = some (lo, H)) (e3 : q l H = some (hi, H)) (e4 : r l H = some (some (s : Int), H)) (hs : 0 < s) (hl : xs.length ≤ 1000) : sliceF f p q r l H = some (.lst (pickI xs lo hi (some (s : Int))), H) := by
 simp only [sliceF, e1, e2, e3, e4, bs, listOf?]
 rw [if_pos ⟨by intro e; have := Option.some.inj e; omega, hl⟩]
theorem pick_every {w : List Bool} {st c : Nat} (hw : w.length = 8) (h2 : 2 ≤ st) (h4 : st ≤ 4) (hc : c < st) : pickI (w.map sgV) (some (c : Int)) none (some (st : Int)) = (everyP st c w).map sgV := by
 obtain ⟨b0, b1, b2, b3, b4, b5, b6, b7, rfl⟩ := len8 hw
 refine st9 st c h2 h4 hc ⟨?_, ?_, ?_, ?_, ?_, ?_, ?_, ?_, ?_, trivial⟩ <;> kernel_rfl!
theorem eq_sgA (b : Bool) : eqF H (sgV b) (.str "a") = some (.bool (!b), H) := by cases b <;> kernel_rfl!
theorem neS_self {x : Str} (h : PyData.strOk x = true) : neF H (.str x) (.str x) = some (.bool false, H) := ne_self (by exact h)
theorem ne_same {a b : V} {d : PyData} (e1 : toD H 8 a = some d) (e2 : toD H 8 b = some d) (hs : SeqAt.shaped d = true) : neF H a b = some (.bool false, H) := eqG_run e1 e2 hs hs (congrArg not (SeqAt.eqv_refl d (SeqAt.canLay_of_shaped hs)))
theorem joinE_run {L : List Str} (h : (L.map (·.length)).sum + L.length ≤ 900) : joinF [.str "", .lst (L.map V.str)] H = some (.str (Txt.join "" L), H) := join_run rfl (by decide) (Nat.le_trans h (by decide))
theorem blank_list (b : Bool) : ((" " : Str) ++ wdS b).cps.toList = [32, cond b 97 98, cond b 98 97] := by cases b <;> kernel_rfl!
theorem join_words (w : List Bool) : Txt.join "" (w.map fun b => (" " : Str) ++ wdS b) = rowS w := by
 refine str_ext ?_
 rw [show (("" : Str)) = eStr from by kernel_rfl!, join_list, List.flatMap_map]
 show _ = rowL w
 induction w with
 | nil => rfl
 | cons b w ih => rw [List.flatMap_cons, ih, blank_list]; rfl
theorem chS_len : ∀ w : List Bool, (chS w).length = 2 * w.length
 | [] => rfl
 | b :: w => by
  have := chS_len w
  unfold chS at this ⊢
  rw [List.flatMap_cons, List.length_append, this, List.length_cons]
  simp only [List.length_cons, List.length_nil]
  omega
theorem chS_eq (w : List Bool) : ((w.map fun b => V.str (wdS b)).flatMap fun x => [V.tup [.str " ", .str ""], .tup [.str "", x]].map fun z => z) = chS w := by
 unfold chS
 rw [List.flatMap_map]
 rfl
theorem s254 {w : List Bool} {st hd : Nat} {pick : Int} (G : GoodW w) (S : GoodS st hd w) : ∃ H', F254 [signsV w, iN st, iN hd, .int pick] [] = some (.bool true, H') := by
 have hw := G.len
 refine ⟨[accA [] (.int 0), .list ([9, 8, 10].map pieceV)], ?_⟩
 unfold F254 P254
 dsimp only
 have nilH : ([] : List AO).all (lowO ([] : List AO).length) = true := rfl
 refine ret_body (ab := [(("signs" : Str), signsV w), (("step" : Str), iN st), (("head" : Str), iN hd), (("pick" : Str), .int pick)]) (l0 := [some (signsV w), some (iN st), some (iN hd), some (.int pick), none, none, none, none, none, none, none, none, none, none, none, none, none]) rfl rfl ?_
 refine ret_next (set_run (v := .lst (w.map fun b => .str (wdS b))) (h' := []) ?c1) ?_
 case c1 =>
  refine compT (H := []) (l := w) sgV (fun b => .str (wdS b)) (valQ_run rfl rfl) ?_ (fun _ _ => rfl) (by omega) nilH
  intro b _ ys _
  refine ite_run (b := !b) (test_run (bin_run rfl rfl (eq_sgA b)) rfl) ?_
  cases b <;> kernel_rfl!
 refine ret_next (set_run (v := .str (rowS w)) (h' := []) ?c2) ?_
 case c2 =>
  refine meth_run (a := .str "") (h1 := []) rfl rfl (cons_run (a := .lst (w.map fun b => .str ((" " : Str) ++ wdS b))) (h1 := []) ?_ rfl) ?_
  ·refine compT (H := []) (l := w) (fun b => .str (wdS b)) (fun b => .str ((" " : Str) ++ wdS b)) (valQ_run rfl rfl) ?_ (fun _ _ => rfl) (by omega) nilH
   intro b _ ys _
   exact bin_run rfl rfl (p2_run (by cases b <;> kernel_rfl!))
  ·have := joinE_run (H := []) (L := w.map fun b => (" " : Str) ++ wdS b) (by
    have : ∀ w : List Bool, ((w.map fun b => (" " : Str) ++ wdS b).map (·.length)).sum = 3 * w.length := fun w => by
     induction w with
     | nil => rfl
     | cons b w ih =>
      have e : ((" " : Str) ++ wdS b).length = 3 := by
       show ((" " : Str) ++ wdS b).cps.toList.length = 3
       rw [blank_list]; rfl
      rw [List.map_cons, List.map_cons, List.sum_cons, ih, e, List.length_cons]; omega
    rw [this, List.length_map]; omega)
   rw [join_words, List.map_map] at this
   exact this
 simp only [List.set_cons_succ, List.set_cons_zero]
 refine ret_next (set_run (v := .lst ([false, true].map fun m => .lst ((partP m w).map fun r => .str (rowS r)))) (h' := []) ?c3) ?_
 case c3 =>
  refine compT (H := []) (l := [false, true]) sgV (fun m => .lst ((partP m w).map fun r => .str (rowS r))) (valQ_run rfl (by kernel_rfl!)) ?_ (fun m _ => ?_) (by simp) nilH
  ·intro m _ ys hy
   have hlow : [AO.list ys].all (lowO 1) = true := by
    show (ys.all (lowV 1 8) && true) = true
    rw [List.all_eq_true.mpr fun y h => low_mono 7 8 0 1 y (by omega) (by omega) (hy y h)]
    rfl
   refine call_run (cons_run (a := .lst (w.map chAB)) (h1 := [.list ys]) ?_ (cons_run rfl (cons_run rfl (cons_run rfl rfl)))) (sAB hw ?_ ?_ (G.A m).1 (G.A m).2.1)
   ·refine compT (H := [.list ys]) (l := w) (fun b => .str (wdS b)) chAB (valQ_run rfl rfl) (fun b _ zs _ => tup2_run rfl rfl) (fun _ _ => rfl) (by omega) hlow
   ·intro e
    have := (G.A m).2.2.1 (endP m 0 false w) (by unfold partP; simp)
    rw [e] at this
    exact absurd this.1 (by simp)
   ·exact ((G.A m).2.2.1 (endP m 0 false w) (by unfold partP; simp)).2
  ·show ((partP m w).map fun r => V.str (rowS r)).all (lowV 0 6) = true
   rw [List.all_map]
   exact List.all_eq_true.mpr fun _ _ => rfl
 simp only [List.set_cons_succ, List.set_cons_zero]
 have hrows : ∀ (k : Nat) (R : List (List Bool)), okD (k + 2) (.lst (R.map fun r => V.str (rowS r))) = true := fun k R => by
  show (R.map fun r => V.str (rowS r)).all (okD (k + 1)) = true
  rw [List.all_map]
  exact List.all_eq_true.mpr fun r _ => row_ok r
 refine ret_next (h' := []) (if_skip (test_run (h1 := []) (bin_run (a := .lst ([false, true].map fun m => .lst ((partP m w).map fun r => .str (rowS r)))) (h1 := []) (h2 := []) rfl (sOut hw G.R G.L rfl) (ne_self (by
  show ([false, true].map fun m => V.lst ((partP m w).map fun r => .str (rowS r))).all (okD 7) = true
  rw [List.all_map]
  exact List.all_eq_true.mpr fun m _ => hrows 5 (partP m w)))) rfl)) ?_
 refine ret_next (set_run (v := .lst (chS w)) (h' := []) ?c5) ?_
 case c5 =>
  refine (comp2 (H := []) (xs := w.map fun b => .str (wdS b)) (fun x => [V.tup [.str " ", .str ""], .tup [.str "", x]]) (fun _ z => z) (valQ_run rfl rfl) (fun x hx l1 ys => ?_) (fun _ _ _ _ _ => rfl) (fun x hx z hz => ?_) (by rw [chS_eq, chS_len]; omega) nilH).trans (by rw [chS_eq])
  ·obtain ⟨b, _, rfl⟩ := List.mem_map.mp hx
   rfl
  ·obtain ⟨b, _, rfl⟩ := List.mem_map.mp hx
   rcases List.mem_cons.mp hz with rfl | hz
   ·rfl
   ·rw [List.mem_singleton.mp hz]; rfl
 obtain ⟨r, hr, hr2⟩ := fmod_nat pick (show 0 < 3 by decide)
 refine ret_next (set_run (v := .lst ((rowsW st hd w).map fun r => .str (rowS r))) (h' := []) ?c6) ?_
 case c6 =>
  have hst := S.h2
  have hst4 := S.h4
  have hhd := S.hh
  have hf : fmodV (.int pick) (.int 3) = some (iN r) := fmod_int (m := 3) (by decide) (by decide) hr2
  have hm : ∀ n : Nat, n ≤ 1000 → mulV (.int 3) (iN n) = some (iN (3 * n)) := fun n hn => mul_nat 3 n hn
  refine call_run (cons_run (a := .lst (chS w)) (h1 := []) rfl (cons_run (a := iN (3 * hd)) (h1 := []) (bin_run (a := .int 3) (b := iN hd) (h1 := []) (h2 := []) rfl rfl (p2_run (hm hd (by omega)))) (cons_run (a := iN (3 * st + r)) (h1 := []) (bin_run (a := iN (3 * st)) (b := iN r) (h1 := []) (h2 := []) (bin_run (a := .int 3) (b := iN st) (h1 := []) (h2 := []) rfl rfl (p2_run (hm st (by omega)))) (bin_run (a := .int pick) (b := .int 3) (h1 := []) (h2 := []) rfl rfl (p2_run hf)) (p2_run (add_nat _ _))) (cons_run rfl rfl)))) (sS hw S.h2 S.h4 S.hh (by omega) ?_ ?_ ?_ ?_ ?_)
  all_goals
   obtain ⟨b0, b1, b2, b3, b4, b5, b6, b7, e⟩ := len8 hw
   rw [e]
   clear hm hf hr hr2 hrows nilH G S e hw
   refine st12 st hd hst hst4 hhd ⟨?_, ?_, ?_, ?_, ?_, ?_, ?_, ?_, ?_, ?_, ?_, ?_, trivial⟩ <;> first | rfl | (intro q; cases q; done) | exact Nat.le_of_ble_eq_true rfl
 simp only [List.set_cons_succ, List.set_cons_zero]
 refine ret_next (h' := []) (if_skip (test_run (h1 := []) (bin_run (a := .str (rowS w)) (b := .str (rowS w)) (h1 := []) (h2 := []) (meth_run (a := .str "") (h1 := []) rfl rfl (cons_run rfl rfl) ?c7) rfl (neS_self (row_ok w))) rfl)) ?_
 case c7 =>
  have hfl : (rowsW st hd w).flatten = w := by
   have hst := S.h2
   have hst4 := S.h4
   have hhd := S.hh
   obtain ⟨b0, b1, b2, b3, b4, b5, b6, b7, e⟩ := len8 hw
   rw [e]
   refine st12 st hd hst hst4 hhd ⟨?_, ?_, ?_, ?_, ?_, ?_, ?_, ?_, ?_, ?_, ?_, ?_, trivial⟩ <;> rfl
  have hrl : (rowsW st hd w).length ≤ 10 := by
   unfold rowsW
   have : ∀ (n : Nat) (l : List Bool), (cutB st n l).length ≤ n := fun n => by
    induction n with
    | zero => intro l; exact Nat.le_refl 0
    | succ n ih =>
     intro l
     cases l with
     | nil => exact Nat.zero_le _
     | cons b l => rw [cutB, List.length_cons]; exact Nat.succ_le_succ (ih _)
   have := this 8 (w.drop (st - hd))
   rw [List.length_cons]; omega
  have := joinE_run (H := []) (L := (rowsW st hd w).map rowS) (by rw [rows_len, hfl, List.length_map]; omega)
  rw [join_rows, hfl, List.map_map] at this
  exact this
 refine ret_next (set_run (v := natsV (hooksP w)) (h' := []) (call_run (cons_run (a := natsV (posP false 0 w)) (h1 := []) ?c8 (cons_run (a := natsV (posP true 0 w)) (h1 := []) ?c9 rfl)) G.L4)) ?_
 case c8 =>
  rw [← (G.A false).2.2.2]
  exact call_run (cons_run (a := .lst ((partP false w).map fun r => .str (rowS r))) (h1 := []) (bin_run rfl rfl (idx_lst (k := 0) (by decide) rfl)) (cons_run (a := sgV false) rfl rfl)) (s224 (m := false) (G.A false).2.1 fun r hr => ⟨((G.A false).2.2.1 r hr).1, by have := ((G.A false).2.2.1 r hr).2; omega⟩)
 case c9 =>
  rw [← (G.A true).2.2.2]
  exact call_run (cons_run (a := .lst ((partP true w).map fun r => .str (rowS r))) (h1 := []) (bin_run rfl rfl (idx_lst (k := 1) (by decide) rfl)) (cons_run (a := sgV true) rfl rfl)) (s224 (m := true) (G.A true).2.1 fun r hr => ⟨((G.A true).2.2.1 r hr).1, by have := ((G.A true).2.2.1 r hr).2; omega⟩)
 simp only [List.set_cons_succ, List.set_cons_zero]
 refine ret_next (h' := []) (if_skip (test_run (h1 := []) (bin_run (a := natsV (hooksP w)) (b := natsV (hooksP w)) (h1 := []) (h2 := []) rfl (call_run (cons_run (a := signsV w) rfl rfl) (s234 (by omega) (Nat.le_trans G.H.2 (by decide)))) (ne_self (okD_nats _ _))) rfl)) ?_
 refine ret_next (set_run (v := .ref 0) (h' := [accA [] (.int 0)]) rfl) ?_
 refine ret_loop (xs := (hooksP w).map iN) (h' := [accA [] (.int 0)]) (valQ_run rfl rfl) ?_
 simp only [List.set_cons_succ, List.set_cons_zero]
 generalize hT : V.str (rowS w) = T
 generalize hFo : V.lst ([false, true].map fun m => V.lst ((partP m w).map fun r => .str (rowS r))) = Fo
 generalize hWo : V.lst (w.map fun b => V.str (wdS b)) = Wo
 generalize hHa : V.lst (chS w) = Ha
 clear hT hFo hWo hHa
 have e0 : ∀ l : List Nat, ((l.map iN).flatMap fun x => [pieceV (natV x)]) = l.map pieceV := fun l => by
  induction l with
  | nil => rfl
  | cons b w ih => rw [List.map_cons, List.flatMap_cons, ih]; rfl
 refine app_ret (s := []) (fun x => [pieceV (natV x)]) (fun s => [accA s (.int 0)]) (fun l => ∃ a, l = [some (signsV w), some (iN st), some (iN hd), some (.int pick), some Wo, some T, some Fo, some Ha, some (.lst ((rowsW st hd w).map fun r => .str (rowS r))), some (natsV (hooksP w)), some (.ref 0), a, none, none, none, none, none]) (fun _ => True) 1000 rfl ?sp (fun _ _ _ _ => trivial) (fun _ _ => trivial) ⟨_, rfl⟩ ?hn ?k
 case sp =>
  intro x hx s l ⟨a, hl⟩ _ hn
  subst hl
  obtain ⟨n, hn1, rfl⟩ := List.mem_map.mp hx
  simp only [List.length_singleton] at hn
  have h7 := (G.H.1 n hn1).2
  refine ⟨_, _, rfl, seq_next (h' := [accA (s ++ [pieceV n]) (.int 0)]) (expr_run (v := .none) ?_) rfl, _, rfl⟩
  unfold methSF
  simp -iota only [List.set_cons_succ, List.set_cons_zero, List.getElem?_cons_succ, List.getElem?_cons_zero, Option.join_some, ms, bs]
  rw [if_pos (inst_acc rfl _ (by rfl)), call_run (cons_run (a := iN n) rfl rfl) (s210 (by omega))]
  simp -iota only [bs]
  exact push_run (i := 0) (xs := s) rfl (by omega)
 case hn =>
  show 0 + _ ≤ _
  rw [e0, List.length_map]
  have := G.H.2
  omega
 case k =>
  intro l' hl
  obtain ⟨a, rfl⟩ := hl
  rw [e0, List.nil_append]
  have hst := S.h2
  have hst4 := S.h4
  have hhd := S.hh
  have hHl := G.H.2
  have lowP : ∀ (l : List Nat) (k n : Nat), (l.map pieceV).all (lowV n (k + 2)) = true := fun l k n => by
   rw [List.all_map]
   exact List.all_eq_true.mpr fun _ _ => rfl
  have accL : ∀ (l : List Nat) (n : Nat), lowO n (accA (l.map pieceV) (.int 0)) = true := fun l n => by
   show ((l.map pieceV).all (lowV n 8) && true) = true
   rw [lowP l 6 n]
   rfl
  have acc1 : ∀ (l : List Nat) (n : Nat), [accA (l.map pieceV) (.int 0)].all (lowO n) = true := fun l n => by
   rw [List.all_cons, accL]
   rfl
  have hcl : (colsP st hd w).length = st := by unfold colsP; rw [List.length_map, List.length_range]
  have hgl : (greatP st hd w).length < 10 := by rw [S.N]; exact S.X
  refine ret_next (set_run (v := natsV (greatP st hd w)) (h' := [accA ((hooksP w).map pieceV) (.int 0)]) ?g12) ?_
  case g12 =>
   have eg : ((colsP st hd w).flatMap fun c => ((hooksP c).map iN).map fun z => iN (st * natV z)) = (greatP st hd w).map iN := by
    unfold greatP
    rw [List.map_flatMap]
    congr 1
    funext c
    rw [List.map_map, List.map_map]
    rfl
   refine (comp2M (H := [accA ((hooksP w).map pieceV) (.int 0)]) (l := colsP st hd w) signsV (fun c => (hooksP c).map iN) (fun _ z => iN (st * natV z)) (valQ_run (call_run (cons_run rfl (cons_run rfl (cons_run rfl rfl))) (s229 hw S.h2 S.h4 S.hh)) rfl) ?_ ?_ ?_ ?_ (acc1 _ _)).trans ?_
   ·intro c hc l1 ys
    exact valQ_run (call_run (cons_run (a := signsV c) rfl rfl) (s234 (S.C c hc).1 (Nat.le_trans (S.C c hc).2 (by decide)))) rfl
   ·intro c hc z hz ys
    obtain ⟨n, hn, rfl⟩ := List.mem_map.mp hz
    have h7 : st * n ≤ 7 := S.E (st * n) (by unfold greatP; exact List.mem_flatMap.mpr ⟨c, hc, List.mem_map.mpr ⟨n, hn, rfl⟩⟩)
    have hn7 : n ≤ 7 := Nat.le_trans (Nat.le_mul_of_pos_left n (by omega)) h7
    exact bin_run (a := iN st) (b := iN n) rfl rfl (p2_run (mul_nat st n (by omega)))
   ·intro c hc z hz
    rfl
   ·rw [eg, List.length_map]; omega
   ·rw [eg]; rfl
  refine ret_next (set_run (v := .lst ([9, 8, 10].map pieceV)) (h' := [accA ((hooksP w).map pieceV) (.int 0)]) ?g13) ?_
  case g13 =>
   refine compT (H := [accA ((hooksP w).map pieceV) (.int 0)]) (l := [9, 8, 10]) iN pieceV (valQ_run (v := .lst [iN 9, iN 8, iN 10]) rfl rfl) ?_ (fun _ _ => rfl) (by simp) (acc1 _ _)
   intro n hn ys _
   refine call_run (cons_run (a := iN n) rfl rfl) (s210 ?_)
   simp only [List.mem_cons, List.not_mem_nil, or_false] at hn
   omega
  simp only [List.set_cons_succ, List.set_cons_zero]
  refine ret_next (set_run (v := .ref 1) (h' := [accA ((hooksP w).map pieceV) (.int 0), .list ((9 :: greatP st hd w ++ [8, 10]).map pieceV)]) ?g14) ?_
  case g14 =>
   refine bin_run (a := .lst ((9 :: greatP st hd w).map pieceV)) (b := .lst ([8, 10].map pieceV)) (h1 := [accA ((hooksP w).map pieceV) (.int 0)]) (h2 := [accA ((hooksP w).map pieceV) (.int 0)]) (bin_run (a := .lst ([9].map pieceV)) (b := .lst ((greatP st hd w).map pieceV)) (h1 := [accA ((hooksP w).map pieceV) (.int 0)]) (h2 := [accA ((hooksP w).map pieceV) (.int 0)]) ?_ ?_ ?_) ?_ ?_
   ·exact (slice_lst (xs := [9, 8, 10].map pieceV) (lo := none) (hi := some ((1 : Nat) : Int)) rfl rfl rfl rfl (by simp)).trans (by rw [pick_take]; rfl)
   ·refine compT (H := [accA ((hooksP w).map pieceV) (.int 0)]) (l := greatP st hd w) iN pieceV (valQ_run rfl rfl) ?_ (fun _ _ => rfl) (by omega) (acc1 _ _)
    intro n hn ys _
    exact call_run (cons_run (a := iN n) rfl rfl) (s210 (by have := S.E n hn; omega))
   ·refine p2_run ((add_lst (by simp; omega)).trans ?_)
    rw [← List.map_append]
    rfl
   ·exact (slice_lst (xs := [9, 8, 10].map pieceV) (lo := some ((1 : Nat) : Int)) (hi := none) rfl rfl rfl rfl (by simp)).trans (by rw [pick_drop]; rfl)
   ·show (if ((9 :: greatP st hd w).map pieceV).length + ([8, 10].map pieceV).length ≤ 1000 then some (V.ref 1, [accA ((hooksP w).map pieceV) (.int 0)] ++ [AO.list ((9 :: greatP st hd w).map pieceV ++ [8, 10].map pieceV)]) else none) = _
    rw [if_pos (by simp; omega), ← List.map_append]
    rfl
  refine ret_next (set_run (v := .tup [.lst (((hooksP w).reverse.filter fun s => !Nat.beq (s % st) 0).map pieceV), .ref 1]) (h' := [accA [] (.int 0), .list ([9, 8, 10].map pieceV)]) (call_run (cons_run (a := .ref 0) rfl (cons_run (a := .ref 1) rfl rfl)) ?g15)) ?_
  case g15 =>
   have := s196 (h := hooksP w) (t := 9 :: greatP st hd w ++ [8, 10]) (fun x hx => (G.H.1 x hx).1) (fun n hn => by
    rcases List.mem_append.mp hn with h | h
    ·have := (G.H.1 n h).2; omega
    ·rcases List.mem_append.mp h with h | h
     ·rcases List.mem_cons.mp h with rfl | h
      ·omega
      ·have := S.E n h; omega
     ·simp only [List.mem_cons, List.not_mem_nil, or_false] at h
      omega) (by omega) (by simp; omega)
   rw [S.U] at this
   exact this
  simp only [List.set_cons_succ, List.set_cons_zero]
  have okP8 : ∀ (l : List Nat) (k : Nat), (∀ n ∈ l, n ≤ 40) → okD (k + 3) (.lst (l.map pieceV)) = true := fun l k h => by
   show (l.map pieceV).all (okD (k + 2)) = true
   rw [List.all_map]
   refine List.all_eq_true.mpr fun n hn => ?_
   have h2 := (piece_ok (h n hn)).2.1
   unfold okP at h2
   simp only [PyData.canLay0] at h2
   show (PyData.strOk (pieceS n).1 && (PyData.strOk (pieceS n).2 && true)) = true
   rw [Bool.and_true]
   exact h2
  refine ret_next (h' := [accA [] (.int 0), .list ([9, 8, 10].map pieceV)]) (if_skip (or_ff (h1 := [accA [] (.int 0), .list ([9, 8, 10].map pieceV)]) (test_run (v := .bool false) (h1 := [accA [] (.int 0), .list ([9, 8, 10].map pieceV)]) (bin_run (a := .tup [.lst (((hooksP w).reverse.filter fun s => !Nat.beq (s % st) 0).map pieceV), .ref 1]) (b := .tup [.lst (((hooksP w).reverse.filter fun s => !Nat.beq (s % st) 0).map pieceV), .lst ([9, 8, 10].map pieceV)]) (h1 := [accA [] (.int 0), .list ([9, 8, 10].map pieceV)]) (h2 := [accA [] (.int 0), .list ([9, 8, 10].map pieceV)]) rfl (tup2_run ?q1 rfl) ?q2) rfl)
   (test_run (v := .bool false) (h1 := [accA [] (.int 0), .list ([9, 8, 10].map pieceV)]) (bin_run (a := .ref 1) (b := .ref 1) (h1 := [accA [] (.int 0), .list ([9, 8, 10].map pieceV)]) (h2 := [accA [] (.int 0), .list ([9, 8, 10].map pieceV)]) (bin_run rfl rfl rfl) rfl (p2_run (v := .bool false) rfl)) rfl))) ?_
  case q1 =>
   refine compM (H := [accA [] (.int 0), .list ([9, 8, 10].map pieceV)]) (l := (hooksP w).reverse) iN (fun s => !Nat.beq (s % st) 0) pieceV (revQ_run (cons_run (a := natsV (hooksP w)) rfl rfl) |>.trans (by rw [List.map_reverse])) ?_ ?_ (fun _ _ _ => rfl) (by rw [List.length_reverse]; omega) ?_
   ·intro n hn ys _
    exact test_run (bin_run (bin_run rfl rfl (p2_run (fmod_natV n st (by omega) (by omega)))) rfl (ne_nat0 _)) rfl
   ·intro n hn _ ys _
    exact call_run (cons_run (a := iN n) rfl rfl) (s210 (by have := (G.H.1 n (List.mem_reverse.mp hn)).2; omega))
   ·show (lowO 2 (accA (([] : List Nat).map pieceV) (.int 0)) && (([9, 8, 10].map pieceV).all (lowV 2 8) && true)) = true
    rw [accL, lowP [9, 8, 10] 6 2]
    rfl
  case q2 =>
   have hok : okD 8 (.tup [.lst (((hooksP w).reverse.filter fun s => !Nat.beq (s % st) 0).map pieceV), .lst ([9, 8, 10].map pieceV)]) = true := by
    show (okD 7 (.lst (((hooksP w).reverse.filter fun s => !Nat.beq (s % st) 0).map pieceV)) && (okD 7 (.lst ([9, 8, 10].map pieceV)) && true)) = true
    rw [okP8 _ 4 (fun n hn => by have := (G.H.1 n (List.mem_reverse.mp (List.mem_filter.mp hn).1)).2; omega), okP8 _ 4 (fun n hn => by
     simp only [List.mem_cons, List.not_mem_nil, or_false] at hn
     omega)]
    rfl
   obtain ⟨d, e, hs⟩ := okD_shaped (H := [accA [] (.int 0), .list ([9, 8, 10].map pieceV)]) hok
   exact ne_same (d := d) (by rw [← e]; rfl) e hs
  refine ret_next (h' := [accA [] (.int 0), .list ([9, 8, 10].map pieceV)]) (if_skip (test_run (h1 := [accA [] (.int 0), .list ([9, 8, 10].map pieceV)]) (bin_run (a := .int 0) (b := .int 0) (h1 := [accA [] (.int 0), .list ([9, 8, 10].map pieceV)]) (h2 := [accA [] (.int 0), .list ([9, 8, 10].map pieceV)]) (meth_run (a := .ref 0) rfl (inst_acc rfl _ (by rfl)) rfl (by kernel_rfl!)) rfl (ne_int 0 0)) rfl)) ?_
  have lowH : [accA [] (.int 0), .list ([9, 8, 10].map pieceV)].all (lowO 2) = true := by
   show (lowO 2 (accA (([] : List Nat).map pieceV) (.int 0)) && (([9, 8, 10].map pieceV).all (lowV 2 8) && true)) = true
   rw [accL, lowP [9, 8, 10] 6 2]
   rfl
  refine ret_next (set_run (v := .lst ((dueP st w).map fun b => .str (dueS b))) (h' := [accA [] (.int 0), .list ([9, 8, 10].map pieceV)]) ?g18) ?_
  case g18 =>
   refine (compT (H := [accA [] (.int 0), .list ([9, 8, 10].map pieceV)]) (l := List.range 8) iN (fun k => .str (dueS (Nat.blt (k / st) (cntT (everyP st (k % st) w))))) (rngQ_run (cons_run (call_run (cons_run (a := signsV w) rfl rfl) (len_lst (by rw [List.length_map]; omega))) rfl) (by rw [List.length_map, hw]; exact rng_nat (by decide))) ?_ (fun _ _ => rfl) (by simp) lowH).trans ?_
   ·intro k hk ys _
    have hk := List.mem_range.mp hk
    refine ite_run (b := Nat.blt (k / st) (cntT (everyP st (k % st) w))) (test_run (bin_run (bin_run rfl rfl (p2_run (fdiv_nat k st (by omega) (by omega)))) (meth_run (a := .lst ((everyP st (k % st) w).map sgV)) (h1 := [accA [] (.int 0), .list ([9, 8, 10].map pieceV)] ++ [.list ys]) ?_ rfl (cons_run rfl rfl) (count_sgB _)) (p2_run (lt_nat _ _))) rfl) ?_
    ·refine (slice_step (xs := w.map sgV) (lo := some ((k % st : Nat) : Int)) (hi := none) (s := st) rfl ?_ rfl rfl (by omega) (by rw [List.length_map]; omega)).trans ?_
     ·unfold partF
      rw [bin_run (a := iN k) (b := iN st) (r := some (iN (k % st), [accA [] (.int 0), .list ([9, 8, 10].map pieceV)] ++ [.list ys])) rfl rfl (p2_run (fmod_natV k st (by omega) (by omega)))]
      rfl
     ·rw [pick_every hw S.h2 S.h4 (Nat.mod_lt k (by omega))]
    ·cases Nat.blt (k / st) (cntT (everyP st (k % st) w)) <;> rfl
   ·unfold dueP
    rw [hw, List.map_map]
    rfl
  simp only [List.set_cons_succ, List.set_cons_zero]
  refine ret_now (ret_run (bin_run (a := .tup [.str (strW (dueP st w)), iN (invP st w)]) (b := .tup [.str (strW (dueP st w)), iN (invP st w)]) (h1 := [accA [] (.int 0), .list ([9, 8, 10].map pieceV)]) (h2 := [accA [] (.int 0), .list ([9, 8, 10].map pieceV)]) (call_run (cons_run rfl (cons_run rfl (cons_run rfl rfl))) (s249 hw S.h2 S.h4 S.X S.F)) (tup2_run (h1 := [accA [] (.int 0), .list ([9, 8, 10].map pieceV)]) (meth_run (a := .str "") rfl rfl (cons_run (a := .lst ((dueP st w).map fun b => .str (dueS b))) rfl rfl) ?j1) (call_run (cons_run (a := natsV (greatP st hd w)) rfl rfl) ?j2)) (eq_self' ?j3)))
  case j1 =>
   have hd8 : (dueP st w).length = 8 := by unfold dueP; rw [List.length_map, List.length_range, hw]
   have := joinE_run (H := [accA [] (.int 0), .list ([9, 8, 10].map pieceV)]) (L := (dueP st w).map dueS) (by
    have : ∀ w : List Bool, ((w.map dueS).map (·.length)).sum = 2 * w.length := fun w => by
     induction w with
     | nil => rfl
     | cons b w ih =>
      have e : (dueS b).length = 2 := by cases b <;> kernel_rfl!
      rw [List.map_cons, List.map_cons, List.sum_cons, ih, e, List.length_cons]; omega
    rw [this, List.length_map]; omega)
   rw [List.map_map, join_due] at this
   exact this
  case j2 =>
   refine (len_lst (by rw [List.length_map]; omega)).trans ?_
   rw [List.length_map, S.N]
  case j3 =>
   show (PyData.strOk (strW (dueP st w)) && (true && true)) = true
   rw [strW_ok]
   rfl
end
end
end
section
section
section
variable {loc : Loc} {H H' : List AO} {α : Type}
theorem compG {qf : QF} {tf : GF} {f : EF} {ns : List Str} {cs : List Nat} {cap q : Loc} {l : List α} (fv : α → V) (pf : α → Loc) (g : α → V) (hp : ∀ x, (pf x).length = q.length) (hq : qf loc H = some (l.map fv, H)) (hcl : cLoc loc ns cs = q ++ cap)
  (ht : ∀ x ∈ l, ∀ r : Loc, r.length = q.length → tf (fv x) (r ++ cap) = some (pf x ++ cap)) (hf : ∀ x ∈ l, ∀ ys, f (pf x ++ cap) (H ++ [.list ys]) = some (g x, H ++ [.list ys])) (hc : ∀ x ∈ l, lowV 0 7 (g x) = true) (hl : l.length ≤ 1000) (hH : H.all (lowO H.length) = true) :
  compF true qf tf (fun _ H => some (true, H)) (fun i => emitF i f) ns cs loc H = some (.lst (l.map g), H) :=
 comp_fin (Pq := fun r => ∃ r2 : Loc, r2.length = q.length ∧ r = r2 ++ cap) hq (hcl ▸ List.map_eq_flatMap (l := l) (f := g) ▸ compL_run (Pq := fun r => ∃ r2 : Loc, r2.length = q.length ∧ r = r2 ++ cap) (Py := fun _ => True) fv (fun x => [g x]) l [] _ ⟨q, rfl, rfl⟩ trivial (fun x hx r ys hr _ hn => ⟨trivial, hr.elim fun r2 z => ⟨pf x ++ cap, ⟨pf x, hp x, rfl⟩, z.2 ▸ step_run (ht x hx r2 z.1) rfl (emit_run (hf x hx ys) (Nat.le_of_succ_le hn))⟩⟩) (by rw [← List.map_eq_flatMap, List.length_map]; exact Nat.le_trans (Nat.le_of_eq (Nat.zero_add _)) hl))
  (fun z hz => (List.mem_map.mp hz).elim fun x e => e.2 ▸ hc x e.1) hH
theorem pick_map {β γ : Type} (f : β → γ) (xs : List β) (lo hi st : Option Int) : pickI (xs.map f) lo hi st = (pickI xs lo hi st).map f := by
 simp only [pickI, List.length_map, List.map_filterMap, List.getElem?_map]
theorem ints_map (l : List Int) : intsV (l.map V.int) = some l := List.rec (motive := fun l => intsV (l.map V.int) = some l) rfl (fun n l ih => congrArg (Option.map (n :: ·)) ih) l
theorem sum_run (l : List Int) : sumF [.lst (l.map V.int)] H = some (.int l.sum, H) := by
 exact congrArg (Option.map (·, H)) (bind_of (o := listOf? H (.lst (l.map V.int))) (f := fun xs => (intsV xs).map fun ns : List Int => V.int ns.sum) rfl (congrArg (Option.map fun ns : List Int => V.int ns.sum) (ints_map l)))
theorem fdivI {p m : Int} (h : 0 < m ∧ m < 2 ^ 29) : fdivV (.int p) (.int m) = some (.int (p.fdiv m)) := if_pos h
theorem fdiv_int (p : Int) {m : Nat} (h : 0 < m) (h2 : m ≤ 1000) : fdivV (.int p) (iN m) = some (.int (p.fdiv m)) := by
 have h29 : ((2 : Int) ^ 29) = 536870912 := by decide
 exact fdivI ⟨by omega, by omega⟩
theorem s259 (hG : ∀ w : List Bool, w.length = 8 → GoodW w) (hS : ∀ (w : List Bool) (st hd : Nat), w.length = 8 → 2 ≤ st → st ≤ 4 → hd ≤ st → GoodS st hd w) (ns : List Int) (hl : ns.length ≤ 63) : ∃ H', Ret P259.1 [some (.lst (ns.map V.int)), none, none, none] [] (.bool true) H' := by
 let ks : List (Nat × Int) := [(0, 2), (1, 5), (2, 6), (3, 8), (4, 3), (5, 7), (6, 8), (7, 7)]
 let cz : List Int := ks.map fun p => p.2 + (pickI ns (some (p.1 : Int)) none (some 8)).sum
 have hcz : cz.length = 8 := rfl
 let E : Int := (cz.map fun c => c.fdiv 2).sum
 obtain ⟨s, hs, hs2⟩ := fmod_nat E (show 0 < 3 by decide)
 obtain ⟨hd, hh, hh2⟩ := fmod_nat (E.fdiv (3 : Nat)) (show 0 < 2 + s + 1 by omega)
 have bits : ∀ c : Int, ∃ b : Bool, c.fmod (2 : Nat) = ((cond b 1 0 : Nat) : Int) := fun c => by
  obtain ⟨j, h1, h2⟩ := fmod_nat c (show 0 < 2 by decide)
  rcases (show j = 0 ∨ j = 1 by omega) with rfl | rfl
  ·exact ⟨false, h2⟩
  ·exact ⟨true, h2⟩
 let w : List Bool := cz.map fun c => (bits c).choose
 have hw : w.length = 8 := by simp only [w, List.length_map, hcz]
 obtain ⟨H', e254⟩ := s254 (pick := (E.fdiv (15 : Nat)).fmod (1000 : Nat)) (hG w hw) (hS w (2 + s) hd hw (by omega) (by omega) (by omega))
 refine ⟨H', ?_⟩
 unfold P259
 dsimp only
 refine ret_next (set_run (v := .lst (cz.map V.int)) (h' := []) ?c1) ?_
 case c1 =>
  have e0 : ∀ l : Loc, enumQ (consF (lstF (consF (fun x H => some (V.int 2, H)) (consF (fun x H => some (V.int 5, H)) (consF (fun x H => some (V.int 6, H)) (consF (fun x H => some (V.int 8, H)) (consF (fun x H => some (V.int 3, H)) (consF (fun x H => some (V.int 7, H)) (consF (fun x H => some (V.int 8, H)) (consF (fun x H => some (V.int 7, H)) fun x H => some ([], H)))))))))) fun x H => some ([], H)) l [] = some (ks.map fun p => V.tup [iN p.1, .int p.2], []) := fun l => by kernel_rfl!
  refine (compG (H := []) (q := [none, none]) (cap := [some (.lst (ns.map V.int))]) (l := ks) (fun p : Nat × Int => V.tup [iN p.1, .int p.2]) (fun p => [some (iN p.1), some (.int p.2)]) (fun p => .int (p.2 + (pickI ns (some (p.1 : Int)) none (some 8)).sum)) (fun _ => rfl) (e0 _) rfl ?ht ?hf (fun _ _ => rfl) (by decide) rfl).trans ?_
  case ht =>
   intro p _ q hq
   match q, hq with
   | [a, b], _ => rfl
  case hf =>
   intro p _ ys
   refine bin_run rfl (call_run (cons_run (a := .lst ((pickI ns (some (p.1 : Int)) none (some 8)).map V.int)) (h1 := [] ++ [.list ys]) ?_ rfl) (sum_run _)) (p2_run rfl)
   refine (slice_step (xs := ns.map V.int) (lo := some (p.1 : Int)) (hi := none) (s := 8) rfl rfl rfl rfl (by decide) (by rw [List.length_map]; omega)).trans ?_
   rw [← pick_map]
   rfl
  rw [show cz = ks.map fun p => p.2 + (pickI ns (some (p.1 : Int)) none (some 8)).sum from rfl, List.map_map]
  rfl
 refine ret_next (set_run (v := .int E) (h' := []) (call_run (cons_run (a := .lst ((cz.map fun c => c.fdiv 2).map V.int)) (h1 := []) ?c2 rfl) (sum_run _))) ?_
 case c2 =>
  refine (compT (H := []) (l := cz) V.int (fun c => .int (c.fdiv 2)) (valQ_run rfl rfl) (fun c _ ys _ => bin_run (a := .int c) (b := iN 2) rfl rfl (p2_run (fdiv_int c (by decide) (by decide)))) (fun _ _ => rfl) (by rw [hcz]; decide) rfl).trans ?_
  rw [List.map_map]
  rfl
 refine ret_next (set_run (v := iN (2 + s)) (h' := []) (bin_run (a := iN 2) (b := iN s) (h1 := []) (h2 := []) rfl (bin_run (a := .int E) (b := iN 3) rfl rfl (p2_run (fmod_int (by decide) (by decide) hs2))) (p2_run (add_nat 2 s)))) ?_
 simp only [List.set_cons_succ, List.set_cons_zero]
 refine ret_now (ret_run (call_run (cons_run (a := signsV w) (h1 := []) ?c3 (cons_run (a := iN (2 + s)) rfl (cons_run (a := iN hd) (h1 := []) (bin_run (a := .int (E.fdiv (3 : Nat))) (b := iN (2 + s + 1)) (h1 := []) (h2 := []) (bin_run (a := .int E) (b := iN 3) rfl rfl (p2_run (fdiv_int E (by decide) (by decide)))) (bin_run (a := iN (2 + s)) (b := iN 1) rfl rfl (p2_run (add_nat _ _))) (p2_run (fmod_int (by omega) (by omega) hh2))) (cons_run (a := .int ((E.fdiv (15 : Nat)).fmod (1000 : Nat))) (h1 := []) (bin_run (a := .int (E.fdiv (15 : Nat))) (b := iN 1000) (h1 := []) (h2 := []) (bin_run (a := .int E) (b := iN 15) rfl rfl (p2_run (fdiv_int E (by decide) (by decide)))) rfl (p2_run ?c4)) rfl)))) e254))
 case c3 =>
  refine (compT (H := []) (l := cz) V.int (fun c => sgV (bits c).choose) (valQ_run rfl rfl) (fun c _ ys _ => ?_) (fun _ _ => rfl) (by rw [hcz]; decide) rfl).trans ?_
  ·refine bin_run (a := .str "ab") (b := iN (cond (bits c).choose 1 0)) rfl (bin_run (a := .int c) (b := iN 2) rfl rfl (p2_run (fmod_int (by decide) (by decide) (bits c).choose_spec))) ?_
   cases (bits c).choose <;> kernel_rfl!
  ·unfold signsV
   simp only [w, List.map_map]
   rfl
 case c4 =>
  obtain ⟨j, h1, h2⟩ := fmod_nat (E.fdiv (15 : Nat)) (show 0 < 1000 by decide)
  rw [fmod_int (by decide) (by decide) h2, h2]
end
end
end
section
section
open PySem.Builtin PySem.Builtin.Str
noncomputable def occL (s sub : Str) (hi : Nat) : Nat → List Nat → List Nat
 | _, [] => []
 | free, i :: l => if (free ≤ i ∧ i + sub.length ≤ hi) ∧ subAt s sub i = true then i :: occL s sub hi (i + sub.length) l else occL s sub hi free l
theorem occ_run (s sub : Str) (hi limit : Nat) : ∀ (l : List Nat) (st : Array Nat × Nat), st.fst.size + l.length ≤ limit → (forIn l st (StrLaws.occBody s sub hi limit)).run.fst.toList = st.fst.toList ++ occL s sub hi st.snd l
 | [], st, _ => by simp [occL]
 | i :: l, st, h => by
  simp only [List.length_cons] at h
  rw [List.forIn_cons]
  unfold StrLaws.occBody
  rw [occL]
  by_cases hc : (st.snd ≤ i ∧ i + sub.length ≤ hi) ∧ subAt s sub i = true
  ·rw [if_pos hc, if_pos ⟨⟨⟨by omega, hc.1.1⟩, hc.1.2⟩, hc.2⟩]
   refine (occ_run s sub hi limit l (st.fst.push i, i + sub.length) (by rw [Array.size_push]; omega)).trans ?_
   simp
  ·rw [if_neg hc, if_neg fun q => hc ⟨⟨q.1.1.2, q.1.2⟩, q.2⟩]
   exact occ_run s sub hi limit l (st.fst, st.snd) (by show st.fst.size + l.length ≤ limit; omega)
theorem occ_list (s sub : Str) : occurrences s sub 0 s.length (s.length + 1) = occL s sub s.length 0 (List.range' 0 (s.length + 1)) := by
 rw [StrLaws.occ_eq, occ_run _ _ _ _ _ _ (by simp)]
 simp
noncomputable def insL (m : Bool) : List Bool → List Nat
 | [] => []
 | b :: r => 32 :: cond b 97 98 :: cond b 98 97 :: ((if b == m then [124] else []) ++ insL m r)
noncomputable def splP (m : Bool) : List Bool → List Bool → List (List Bool)
 | cur, [] => [cur]
 | cur, b :: r => if b == m then (cur ++ [b]) :: splP m [] r else splP m (cur ++ [b]) r
theorem subAt_list (s sub : Str) (i : Nat) : subAt s sub i = ((s.cps.toList.drop i).take sub.length == sub.cps.toList) := by
 unfold subAt
 rw [Bool.eq_iff_iff, beq_iff_eq, beq_iff_eq, ← Array.toList_inj, Array.toList_extract, List.extract_eq_take_drop]
 simp
theorem row_drop (p r : List Bool) : (rowL (p ++ r)).drop (3 * p.length) = rowL r := by
 rw [rowL_append, ← rowL_len p, List.drop_left']
 rfl
theorem occ_row (m : Bool) : ∀ (r p : List Bool) (free : Nat), free ≤ 3 * p.length → occL (rowS (p ++ r)) (wdS m) (rowS (p ++ r)).length free (List.range' (3 * p.length) (3 * r.length + 1)) = (posP m p.length r).map fun j => 3 * j + 1
 | [], p, free, _ => by
  have hl : (rowS (p ++ [])).length = 3 * p.length := by rw [List.append_nil]; exact rowL_len p
  show occL _ _ _ free [3 * p.length] = _
  rw [occL, if_neg fun q => by
   have := q.1.2
   rw [hl] at this
   have e : (wdS m).length = 2 := by cases m <;> rfl
   omega]
  rfl
 | b :: r, p, free, hf => by
  have hl : (rowS (p ++ b :: r)).length = 3 * p.length + (3 * r.length + 3) := by
   show (rowL (p ++ b :: r)).length = _
   rw [rowL_len, List.length_append, List.length_cons]; omega
  have e2 : (wdS m).length = 2 := by cases m <;> rfl
  have hd : (rowS (p ++ b :: r)).cps.toList.drop (3 * p.length) = 32 :: cond b 97 98 :: cond b 98 97 :: rowL r := row_drop p (b :: r)
  have hd1 : (rowS (p ++ b :: r)).cps.toList.drop (3 * p.length + 1) = cond b 97 98 :: cond b 98 97 :: rowL r := by rw [← List.drop_drop, hd]; rfl
  have hd2 : (rowS (p ++ b :: r)).cps.toList.drop (3 * p.length + 2) = cond b 98 97 :: rowL r := by rw [← List.drop_drop, hd]; rfl
  have s0 : subAt (rowS (p ++ b :: r)) (wdS m) (3 * p.length) = false := by
   rw [subAt_list, hd, e2]
   cases b <;> cases m <;> rfl
  have s1 : subAt (rowS (p ++ b :: r)) (wdS m) (3 * p.length + 1) = (b == m) := by
   rw [subAt_list, hd1, e2]
   cases b <;> cases m <;> rfl
  have s2 : subAt (rowS (p ++ b :: r)) (wdS m) (3 * p.length + 2) = false := by
   rw [subAt_list, hd2, e2]
   cases r with
   | nil => cases b <;> cases m <;> rfl
   | cons c r => cases b <;> cases m <;> cases c <;> rfl
  have er : List.range' (3 * p.length) (3 * (b :: r).length + 1) = 3 * p.length :: (3 * p.length + 1) :: (3 * p.length + 2) :: List.range' (3 * (p ++ [b]).length) (3 * r.length + 1) := by
   rw [List.length_cons, show 3 * (r.length + 1) + 1 = 3 * r.length + 1 + 1 + 1 + 1 by omega, List.range'_succ, List.range'_succ, List.range'_succ, List.length_append, List.length_singleton]
   congr 4
  have ih := fun free hf => occ_row m r (p ++ [b]) free hf
  rw [show (p ++ [b]) ++ r = p ++ b :: r by simp] at ih
  rw [er, occL, if_neg (by rw [s0]; simp), occL, posP]
  cases q : b == m with
  | true =>
   rw [if_pos ⟨⟨by omega, by rw [hl]; omega⟩, by rw [s1, q]⟩, occL, if_neg (by rw [s2]; simp), ih _ (by rw [List.length_append, List.length_singleton]; omega), if_pos rfl, List.length_append, List.length_singleton]
   rfl
  | false =>
   rw [if_neg (by rw [s1, q]; simp), occL, if_neg (by rw [s2]; simp), ih _ (by rw [List.length_append, List.length_singleton]; omega), if_neg (by simp), List.length_append, List.length_singleton]
theorem sub_list (s : Str) (a b : Nat) : (strSub s a b).cps.toList = (s.cps.toList.take b).drop a := by
 show (s.cps.extract a b).toList = _
 rw [Array.toList_extract, List.extract_eq_take_drop, List.drop_take]
theorem bar_list (m : Bool) : ((wdS m) ++ ("|" : Str)).cps.toList = [cond m 97 98, cond m 98 97, 124] := by cases m <;> kernel_rfl!
theorem glue_row (m : Bool) (w : List Bool) : ∀ (r p : List Bool) (a : Nat), w = p ++ r → a ≤ 3 * p.length → (Str.join (wdS m ++ "|") (StrLaws.partsFrom (rowS w) 2 a ((posP m p.length r).map fun j => 3 * j + 1))).cps.toList = ((rowL w).take (3 * p.length)).drop a ++ insL m r
 | [], p, a, e, ha => by
  have hl : (rowS w).length = 3 * p.length := by rw [e, List.append_nil]; exact rowL_len p
  show (strSub (rowS w) a (rowS w).length).cps.toList = _
  rw [sub_list, hl, insL, List.append_nil]
  rfl
 | b :: r, p, a, e, ha => by
  have e' : w = (p ++ [b]) ++ r := by rw [e]; simp
  have hd : (rowL w).drop (3 * p.length) = 32 :: cond b 97 98 :: cond b 98 97 :: rowL r := by rw [e]; exact row_drop p (b :: r)
  have hlen : 3 * p.length + 3 ≤ (rowL w).length := by rw [rowL_len, e, List.length_append, List.length_cons]; omega
  have t1 : (rowL w).take (3 * p.length + 1) = (rowL w).take (3 * p.length) ++ [32] := by
   rw [List.take_add, hd]; rfl
  have t3 : (rowL w).take (3 * (p ++ [b]).length) = (rowL w).take (3 * p.length) ++ [32, cond b 97 98, cond b 98 97] := by
   rw [List.length_append, List.length_singleton, Nat.mul_add, List.take_add, hd]; rfl
  have tl : ((rowL w).take (3 * p.length)).length = 3 * p.length := by rw [List.length_take]; omega
  rw [posP, insL]
  cases q : b == m with
  | true =>
   have hb : b = m := by cases b <;> cases m <;> first | rfl | cases q
   have ih := glue_row m w r (p ++ [b]) (3 * (p ++ [b]).length) e' (Nat.le_refl _)
   rw [if_pos rfl, if_pos rfl, List.map_cons]
   rw [List.length_append, List.length_singleton] at ih
   obtain ⟨x, xs, ex⟩ := StrLaws.partsFrom_ne (rowS w) 2 (3 * (p.length + 1)) ((posP m (p.length + 1) r).map fun j => 3 * j + 1)
   have e1 : StrLaws.partsFrom (rowS w) 2 a ((3 * p.length + 1) :: (posP m (p.length + 1) r).map fun j => 3 * j + 1) = strSub (rowS w) a (3 * p.length + 1) :: StrLaws.partsFrom (rowS w) 2 (3 * (p.length + 1)) ((posP m (p.length + 1) r).map fun j => 3 * j + 1) := rfl
   rw [e1, ex]
   rw [ex] at ih
   show (strSub (rowS w) a (3 * p.length + 1) ++ (wdS m ++ "|") ++ Str.join (wdS m ++ "|") (x :: xs)).cps.toList = _
   rw [PySem.Str.cps_append, PySem.Str.cps_append, Array.toList_append, Array.toList_append, sub_list, bar_list, ih]
   have d0 : ((rowL w).take (3 * (p.length + 1))).drop (3 * (p.length + 1)) = [] := by
    rw [List.drop_eq_nil_iff, List.length_take]; omega
   rw [d0, List.nil_append]
   show List.drop a ((rowL w).take (3 * p.length + 1)) ++ _ ++ _ = _
   rw [t1, List.drop_append_of_le_length (by rw [tl]; exact ha), hb]
   simp
  | false =>
   have ih := glue_row m w r (p ++ [b]) a e' (by rw [List.length_append]; omega)
   rw [if_neg (by simp), if_neg (by simp)]
   rw [t3, List.drop_append_of_le_length (by rw [tl]; exact ha), List.length_append, List.length_singleton] at ih
   rw [ih]
   simp
theorem rep_list (m : Bool) (w : List Bool) : (repV (rowS w) (wdS m)).cps.toList = insL m w := by
 have ho : occurrences (rowS w) (wdS m) 0 (rowS w).length ((rowS w).length + 1) = (posP m 0 w).map fun j => 3 * j + 1 := by
  rw [occ_list, show (rowS w).length = 3 * w.length from rowL_len w]
  have := occ_row m w [] 0 (Nat.zero_le _)
  rw [List.nil_append, show (rowS w).length = 3 * w.length from rowL_len w] at this
  exact this
 have hg : (Str.join (wdS m ++ "|") (StrLaws.partsFrom (rowS w) 2 0 ((posP m 0 w).map fun j => 3 * j + 1))).cps.toList = insL m w := glue_row m w w [] 0 rfl (Nat.zero_le _)
 unfold repV Txt.replace
 rw [ho, show (wdS m).length = 2 by cases m <;> rfl, StrLaws.partsBetween_eq, StrLaws.glued_eq_join]
 split
 ·rename_i h
  have h0 : (posP m 0 w).map (fun j => 3 * j + 1) = [] := by
   simp at h
   rw [h]; rfl
  rw [h0] at hg
  rw [← hg]
  show rowL w = (strSub (rowS w) 0 (rowS w).length).cps.toList
  rw [sub_list, show (rowS w).length = 3 * w.length from rowL_len w, List.drop_zero, show (rowS w).cps.toList = rowL w from rfl, List.take_of_length_le (by rw [rowL_len]; exact Nat.le_refl _)]
 ·exact hg
theorem spl_ne (m : Bool) : ∀ r cur, ∃ x xs, splP m cur r = x :: xs
 | [], cur => ⟨_, _, rfl⟩
 | b :: r, cur => by
  rw [splP]
  split
  ·exact ⟨_, _, rfl⟩
  ·exact spl_ne m r _
theorem spl_list (m : Bool) : ∀ (r cur : List Bool), (Str.join ⟨#[124]⟩ ((splP m cur r).map rowS)).cps.toList = rowL cur ++ insL m r
 | [], cur => by
  rw [insL, List.append_nil]
  rfl
 | b :: r, cur => by
  rw [splP, insL]
  split
  ·rename_i q
   obtain ⟨x, xs, ex⟩ := spl_ne m r []
   have ih := spl_list m r []
   rw [List.map_cons, ex, List.map_cons, join_cons2]
   rw [ex, List.map_cons] at ih
   rw [ih]
   show rowL (cur ++ [b]) ++ _ = _
   rw [rowL_append]
   simp [rowL]
  ·rename_i q
   rw [spl_list m r (cur ++ [b]), rowL_append]
   simp [rowL]
theorem split_row (m : Bool) (w : List Bool) : Txt.split (repV (rowS w) (wdS m)) "|" = (splP m [] w).map rowS := by
 have e : repV (rowS w) (wdS m) = Str.join ⟨#[124]⟩ ((splP m [] w).map rowS) := by
  refine str_ext ?_
  rw [rep_list, spl_list]
  rfl
 rw [e]
 obtain ⟨x, xs, ex⟩ := spl_ne m w []
 exact split_join (by rw [ex]; simp) fun p hp => by
  obtain ⟨r, _, rfl⟩ := List.mem_map.mp hp
  exact row_bar r
theorem parts_of {m : Bool} {w : List Bool} (h : (splP m [] w).filter (fun r => !r.isEmpty) = partP m w) : Parts m w := by
 unfold Parts
 rw [split_row, ← h]
 generalize splP m [] w = S
 induction S with
 | nil => rfl
 | cons r S ih =>
  rw [List.map_cons, List.filterMap_cons, List.filter_cons]
  cases r with
  | nil => exact ih
  | cons b r =>
   simp -iota only [List.isEmpty_cons, Bool.not_false, if_true]
   rw [List.map_cons, ← ih]
   rfl
theorem ins_len (m : Bool) : ∀ w : List Bool, (insL m w).length ≤ 4 * w.length
 | [] => Nat.le_refl _
 | b :: r => by
  have := ins_len m r
  rw [insL]
  split <;> simp <;> omega
theorem rep_len (m : Bool) (w : List Bool) : (repV (rowS w) (wdS m)).length ≤ 4 * w.length := by
 show (repV (rowS w) (wdS m)).cps.toList.length ≤ _
 rw [rep_list]
 exact ins_len m w
end
end
section
section
noncomputable abbrev beqBs : List Bool → List Bool → Bool := beqL fun a b => cond a b (!b)
noncomputable abbrev beqBB : List (List Bool) → List (List Bool) → Bool := beqL beqBs
theorem beqBs_eq {a b : List Bool} (h : beqBs a b = true) : a = b := beqL_eq (fun a b h => by cases a <;> cases b <;> first | rfl | cases h) h
theorem beqBB_eq {a b : List (List Bool)} (h : beqBB a b = true) : a = b := beqL_eq (fun _ _ => beqBs_eq) h
noncomputable def countP (x : Nat) : List Nat → Nat
 | [] => 0
 | y :: l => cond (Nat.beq x y) (countP x l + 1) (countP x l)
theorem countP_eq (x : Nat) : ∀ l : List Nat, countP x l = l.count x
 | [] => rfl
 | y :: l => by
  show cond (Nat.beq x y) (countP x l + 1) (countP x l) = _
  rw [List.count_cons, countP_eq x l]
  cases q : Nat.beq x y with
  | true => rw [Nat.eq_of_beq_eq_true q]; simp
  | false =>
   have : (y == x) = false := by
    rw [beq_eq_false_iff_ne]
    intro e
    rw [e, show Nat.beq x x = true from Nat.beq_refl x] at q
    cases q
   rw [this]; simp
noncomputable def allB {α : Type} (p : α → Bool) : List α → Bool
 | [] => true
 | x :: l => cond (p x) (allB p l) false
theorem allB_mem {α : Type} {p : α → Bool} : ∀ {l : List α}, allB p l = true → ∀ x ∈ l, p x = true
 | [], _, x, h => absurd h List.not_mem_nil
 | y :: l, h, x, hx => by
  have h : cond (p y) (allB p l) false = true := h
  cases q : p y with
  | true =>
   rw [q] at h
   rcases List.mem_cons.mp hx with rfl | hx
   ·exact q
   ·exact allB_mem h x hx
  | false => rw [q] at h; cases h
theorem allB_words {n : Nat} {p : List Bool → Bool} (h : allB p (wordsN n) = true) {w : List Bool} (e : w.length = n) : p w = true := allB_mem h w (e ▸ mem_words w)
noncomputable def chkA (m : Bool) (w : List Bool) : Bool :=
 beqBs (partP m w).flatten w && (Nat.ble (partP m w).length 100 && (allB (fun r => Nat.ble 1 r.length && Nat.ble r.length 30) (partP m w) && (beqNs (endsP m 0 (partP m w)) (posP m 0 w) && beqBB ((splP m [] w).filter fun r => !r.isEmpty) (partP m w))))
noncomputable def chkH (w : List Bool) : Bool := allB (fun x => Nat.ble 1 x && Nat.ble x 7) (hooksP w) && Nat.ble (hooksP w).length 40
noncomputable def chkL (w : List Bool) : Bool := Nat.ble (hooksP w).length 100
noncomputable def chkG (st : Nat) (w : List Bool) : Bool := allB (fun x => Nat.beq (countP x (greatP st 0 w)) (cond (Nat.beq (x % st) 0) (countP x (hooksP w)) 0)) [0, 1, 2, 3, 4, 5, 6, 7] && (allB (fun x => Nat.ble x 7) (greatP st 0 w) && Nat.beq (greatP st 0 w).length (invP st w))
noncomputable def chkX (st : Nat) (w : List Bool) : Bool :=
 Nat.ble (invP st w) 9 && (match placesP st w with
  | [] => Nat.beq (invP st w) 0 && beqBs (dueP st w) w
  | ks => allB (fun k => Nat.beq (swapP st k w).length 8 && (Nat.beq (invP st (swapP st k w) + 1) (invP st w) && beqBs (dueP st (swapP st k w)) (dueP st w))) ks)
theorem tA0 : allB (chkA false) (wordsN 8) = true := by decide +kernel
theorem tA1 : allB (chkA true) (wordsN 8) = true := by decide +kernel
theorem tH : allB chkH (wordsN 8) = true := by decide +kernel
theorem tL0 : allB chkL (wordsN 0) = true := by decide +kernel
theorem tL1 : allB chkL (wordsN 1) = true := by decide +kernel
theorem tL2 : allB chkL (wordsN 2) = true := by decide +kernel
theorem tL3 : allB chkL (wordsN 3) = true := by decide +kernel
theorem tL4 : allB chkL (wordsN 4) = true := by decide +kernel
theorem tG2 : allB (chkG 2) (wordsN 8) = true := by decide +kernel
theorem tG3 : allB (chkG 3) (wordsN 8) = true := by decide +kernel
theorem tG4 : allB (chkG 4) (wordsN 8) = true := by decide +kernel
theorem tX2 : allB (chkX 2) (wordsN 8) = true := by decide +kernel
theorem tX3 : allB (chkX 3) (wordsN 8) = true := by decide +kernel
theorem tX4 : allB (chkX 4) (wordsN 8) = true := by decide +kernel
end
end
section
section
theorem idx_at {x : Nat} : ∀ (l r : List Nat), (∀ y ∈ l, y ≠ x) → idxP x (l ++ x :: r) = l.length
 | [], r, _ => by
  unfold idxP
  rw [List.nil_append, List.findIdx_cons, show Nat.beq x x = true from Nat.beq_refl x]
  rfl
 | y :: l, r, h => by
  have e := idx_at l r fun z hz => h z (.tail _ hz)
  unfold idxP at e ⊢
  have q : Nat.beq y x = false := by
   cases q : Nat.beq y x with
   | true => exact absurd (Nat.eq_of_beq_eq_true q) (h y (.head _))
   | false => rfl
  rw [List.cons_append, List.findIdx_cons, q, e]
  rfl
theorem idx_none {x : Nat} : ∀ (l : List Nat), (∀ y ∈ l, y ≠ x) → idxP x l = l.length
 | [], _ => rfl
 | y :: l, h => by
  have e := idx_none l fun z hz => h z (.tail _ hz)
  unfold idxP at e ⊢
  have q : Nat.beq y x = false := by
   cases q : Nat.beq y x with
   | true => exact absurd (Nat.eq_of_beq_eq_true q) (h y (.head _))
   | false => rfl
  rw [List.findIdx_cons, q, e]
  rfl
theorem erase_nat {x : Nat} : ∀ (l r : List Nat), (l ++ x :: r).eraseIdx l.length = l ++ r
 | [], r => rfl
 | y :: l, r => by
  rw [List.cons_append, List.length_cons, List.eraseIdx_cons_succ, erase_nat l r]
  rfl
theorem unord_run {st : Nat} : ∀ (hr g m : List Nat), (∀ x ∈ hr, x ≤ 7) → (g.Perm (hr.filter fun s => Nat.beq (s % st) 0)) → unordP hr m (9 :: g ++ [8, 10]) = (m ++ hr.filter (fun s => !Nat.beq (s % st) 0), [9, 8, 10])
 | [], g, m, _, p => by
  have : g = [] := List.Perm.eq_nil p
  subst this
  rw [unordP]
  simp
 | x :: hr, g, m, hx, p => by
  have hx7 := hx x (.head _)
  cases q : Nat.beq (x % st) 0 with
  | true =>
   rw [List.filter_cons, if_pos q] at p
   have hm : x ∈ g := p.mem_iff.mpr (.head _)
   obtain ⟨a, b, hab, hna⟩ := List.eq_append_cons_of_mem hm
   have e1 : 9 :: g ++ [8, 10] = (9 :: a) ++ x :: (b ++ [8, 10]) := by rw [hab]; simp
   have hl : ∀ y ∈ 9 :: a, y ≠ x := fun y hy => by
    rcases List.mem_cons.mp hy with rfl | hy
    ·omega
    ·exact fun e => hna (e ▸ hy)
   have p2 : (a ++ b).Perm (hr.filter fun s => Nat.beq (s % st) 0) := by
    rw [hab] at p
    exact (List.perm_middle.symm.trans p).cons_inv
   rw [unordP, e1, idx_at _ _ hl, if_pos (by simp), erase_nat]
   have e2 : 9 :: a ++ (b ++ [8, 10]) = 9 :: (a ++ b) ++ [8, 10] := by simp
   rw [e2, unord_run hr (a ++ b) m (fun y hy => hx y (.tail _ hy)) p2, List.filter_cons, if_neg (by rw [q]; simp)]
  | false =>
   rw [List.filter_cons, if_neg (by rw [q]; simp)] at p
   have hn : ∀ y ∈ 9 :: g ++ [8, 10], y ≠ x := fun y hy e => by
    rcases List.mem_append.mp hy with h | h
    ·rcases List.mem_cons.mp h with h | h
     ·omega
     ·have := p.mem_iff.mp h
      rw [List.mem_filter] at this
      rw [e, q] at this
      cases this.2
    ·simp only [List.mem_cons, List.not_mem_nil, or_false] at h
     omega
   rw [unordP, idx_none _ hn, if_neg (Nat.lt_irrefl _), unord_run hr g (m ++ [x]) (fun y hy => hx y (.tail _ hy)) p, List.filter_cons, if_pos (by rw [q]; rfl)]
   simp
end
end
section
section
theorem ble_le {a b : Nat} (h : Nat.ble a b = true) : a ≤ b := Nat.ble_eq.mp h
theorem allG : ∀ w : List Bool, w.length = 8 → GoodW w := fun w hw => by
 have hA : ∀ m, chkA m w = true := fun m => by cases m; exact allB_words tA0 hw; exact allB_words tA1 hw
 have hH := allB_words tH hw
 refine ⟨hw, fun m => ?_, fun m => parts_of ?_, fun m => Nat.le_trans (rep_len m w) (by omega), ?_, ?_⟩
 ·have h := hA m
  unfold chkA at h
  simp only [Bool.and_eq_true] at h
  refine ⟨beqBs_eq h.1, ble_le h.2.1, fun r hr => ?_, beqNs_eq h.2.2.2.1⟩
  have := allB_mem h.2.2.1 r hr
  rw [Bool.and_eq_true] at this
  exact ⟨ble_le this.1, ble_le this.2⟩
 ·have h := hA m
  unfold chkA at h
  simp only [Bool.and_eq_true] at h
  exact beqBB_eq h.2.2.2.2
 ·unfold chkH at hH
  rw [Bool.and_eq_true] at hH
  refine ⟨fun x hx => ?_, ble_le hH.2⟩
  have := allB_mem hH.1 x hx
  rw [Bool.and_eq_true] at this
  exact ⟨ble_le this.1, ble_le this.2⟩
 ·exact s244 hw (fun p hp => (tab_all hp).1) (fun p hp => (tab_all hp).2.1) (fun p hp => (tab_all hp).2.2)
theorem cols_rot {w : List Bool} {st hd : Nat} (hw : w.length = 8) (h2 : 2 ≤ st) (h4 : st ≤ 4) (hh : hd ≤ st) : colsP st hd w = (colsP st 0 w).drop (st - hd) ++ (colsP st 0 w).take (st - hd) ∧ ∀ c ∈ colsP st 0 w, c.length ≤ 4 := by
 obtain ⟨b0, b1, b2, b3, b4, b5, b6, b7, rfl⟩ := len8 hw
 refine st12 st hd h2 h4 hh ⟨?_, ?_, ?_, ?_, ?_, ?_, ?_, ?_, ?_, ?_, ?_, ?_, trivial⟩ <;> exact ⟨by kernel_rfl!, fun c hc => Nat.ble_eq.mp (allB_mem (p := fun c : List Bool => Nat.ble c.length 4) (by kernel_rfl!) c hc)⟩
theorem cols_perm {w : List Bool} {st hd : Nat} (hw : w.length = 8) (h2 : 2 ≤ st) (h4 : st ≤ 4) (hh : hd ≤ st) : (colsP st hd w).Perm (colsP st 0 w) := by
 rw [(cols_rot hw h2 h4 hh).1]
 refine List.perm_append_comm.trans ?_
 rw [List.take_append_drop]
theorem great_perm {w : List Bool} {st hd : Nat} (hw : w.length = 8) (h2 : 2 ≤ st) (h4 : st ≤ 4) (hh : hd ≤ st) : (greatP st hd w).Perm (greatP st 0 w) := by
 unfold greatP
 exact (cols_perm hw h2 h4 hh).flatMap_right _
theorem allS : ∀ (w : List Bool) (st hd : Nat), w.length = 8 → 2 ≤ st → st ≤ 4 → hd ≤ st → GoodS st hd w := fun w st hd hw h2 h4 hh => by
 have hX : ∀ w : List Bool, w.length = 8 → chkX st w = true := fun w hw => by
  exact st3 st h2 h4 ⟨allB_words tX2 hw, allB_words tX3 hw, allB_words tX4 hw⟩
 have hGc : chkG st w = true := by
  exact st3 st h2 h4 ⟨allB_words tG2 hw, allB_words tG3 hw, allB_words tG4 hw⟩
 have gp := great_perm hw h2 h4 hh
 unfold chkG at hGc
 rw [Bool.and_eq_true, Bool.and_eq_true] at hGc
 have g7 : ∀ x ∈ greatP st 0 w, x ≤ 7 := fun x hx => ble_le (allB_mem hGc.2.1 x hx)
 have G := allG w hw
 have h7 : ∀ x ∈ hooksP w, x ≤ 7 := fun x hx => (G.H.1 x hx).2
 have hperm : (greatP st 0 w).Perm ((hooksP w).filter fun s => Nat.beq (s % st) 0) := by
  refine List.perm_iff_count.mpr fun x => ?_
  by_cases hx : x ≤ 7
  ·have hm : x ∈ [0, 1, 2, 3, 4, 5, 6, 7] := List.mem_of_elem_eq_true ((by decide +kernel : ∀ x < 8, List.elem x [0, 1, 2, 3, 4, 5, 6, 7] = true) x (Nat.lt_succ_of_le hx))
   have := Nat.eq_of_beq_eq_true (allB_mem hGc.1 x hm)
   rw [countP_eq, countP_eq] at this
   rw [this]
   cases q : Nat.beq (x % st) 0 with
   | true => exact (List.count_filter (p := fun s => Nat.beq (s % st) 0) q).symm
   | false =>
    refine (List.count_eq_zero.mpr fun hm => ?_).symm
    have := (List.mem_filter.mp hm).2
    rw [q] at this
    cases this
  ·rw [List.count_eq_zero.mpr fun hm => hx (g7 x hm), List.count_eq_zero.mpr fun hm => hx (h7 x (List.mem_filter.mp hm).1)]
 refine ⟨h2, h4, hh, ?_, fun x hx => g7 x (gp.mem_iff.mp hx), ?_, fun c hc => ?_, ?_, ?_⟩
 ·have p2 : (greatP st hd w).Perm ((hooksP w).reverse.filter fun s => Nat.beq (s % st) 0) := by
   refine gp.trans (hperm.trans ?_)
   rw [List.filter_reverse]
   exact (List.reverse_perm _).symm
  rw [unord_run (hooksP w).reverse (greatP st hd w) [] (fun x hx => h7 x (List.mem_reverse.mp hx)) p2, List.nil_append]
 ·rw [gp.length_eq]
  exact Nat.eq_of_beq_eq_true hGc.2.2
 ·have hc0 : c ∈ colsP st 0 w := (cols_perm hw h2 h4 hh).mem_iff.mp hc
  have hl := (cols_rot hw h2 h4 hh).2 c hc0
  refine ⟨Nat.le_trans hl (by decide), ?_⟩
  have : chkL c = true := le7 (P := fun n => n ≤ 4 → c.length = n → chkL c = true) _ (Nat.lt_of_le_of_lt hl (by decide)) ⟨fun _ => allB_words tL0, fun _ => allB_words tL1, fun _ => allB_words tL2, fun _ => allB_words tL3, fun _ => allB_words tL4, fun h => absurd h (by decide), fun h => absurd h (by decide), fun h => absurd h (by decide), trivial⟩ hl rfl
  exact ble_le this
 ·have := hX w hw
  unfold chkX at this
  rw [Bool.and_eq_true] at this
  exact Nat.lt_of_le_of_lt (ble_le this.1) (by decide)
 ·intro w' hw'
  have h := hX w' hw'
  unfold chkX at h
  rw [Bool.and_eq_true] at h
  cases q : placesP st w' with
  | nil =>
   rw [q] at h
   simp only [Bool.and_eq_true] at h
   exact ⟨fun _ => ⟨Nat.eq_of_beq_eq_true h.2.1, beqBs_eq h.2.2⟩, fun k hk => absurd hk List.not_mem_nil⟩
  | cons k0 ks =>
   rw [q] at h
   refine ⟨fun e => absurd e (by simp), fun k hk => ?_⟩
   have := allB_mem h.2 k hk
   rw [Bool.and_eq_true, Bool.and_eq_true] at this
   exact ⟨Nat.eq_of_beq_eq_true this.1, Nat.eq_of_beq_eq_true this.2.1, beqBs_eq this.2.2⟩
end
end
section
section
noncomputable def K1 (q : Params) : Frag := Mine.K0 q ++ [(140, { cls := .none, data := .fields #[] }), (147, { cls := .none, data := .fields #[] })]
theorem lookup_append {a : Addr} {o : Obj} : ∀ {K L : Frag}, K.lookup a = some o → (K ++ L).lookup a = some o
 | [], _, e => by cases e
 | (b, x) :: r, L, e => by
  rw [List.cons_append, List.lookup_cons]
  rw [List.lookup_cons] at e
  cases q : a == b with
  | true => rw [q] at e; exact e
  | false => rw [q] at e; exact lookup_append e
theorem k0_of {q : Params} {h : Heap} (KX : (K1 q).In h) : (Mine.K0 q).In h := fun a o e => KX a o (lookup_append e)
theorem tabs_of {q : Params} {h : Heap} (KX : (K1 q).In h) : TabsAt TBs h := by
 have h1 : h.get? 140 = some (tabObj #[]) := KX 140 _ (by kernel_rfl!)
 have h2 : h.get? 147 = some (tabObj #[]) := KX 147 _ (by kernel_rfl!)
 intro p hp
 rcases List.mem_cons.mp hp with rfl | hp
 ·exact ⟨codeHd_of_K (c := 144) (P := 140) KX (by kernel_rfl!), h1⟩
 ·rw [List.mem_singleton.mp hp]
  exact ⟨codeHd_of_K (c := 151) (P := 147) KX (by kernel_rfl!), h2⟩
theorem k0_noTabs {q : Params} : noTabs (Mine.K0 q) = true := by kernel_rfl!
section
variable {w : World} {p : Program} {loose : List Str} {mean : ExcName → Option Value} {mg mb : Str → Option Value}
theorem ints_well {P : Params} {h : Heap} {Pd : Addr → Obj → Prop} {ρ : List Cell} : ∀ {ns : List Int} {vs : List Value}, WellAll P h vs (ofPys (ns.map PyData.int)) → VRs Pd ρ (ns.map V.int) vs
 | [], vs, x => by
  cases x
  exact .nil
 | n :: ns, vs, x => by
  cases x with
  | cons h1 h2 =>
   cases h1
   exact .cons (.int _ _) (ints_well h2)
theorem join_law {h0 h1 : Heap} {gens : Array GenState} {drawn : _} {tk : _} {os : _} {f Xa : Addr} {c : Value} {ns : List Int} {m : Str → Option Value} {oc fo : Obj} {fd : FuncData} {st0 : Stmt} {body : List Stmt} {Q : Flow → Shared → Prop} {E : Value → Shared → Prop}
  (KX : (K1 w.params).In h0) (T : Top p loose mean mg mb h0) (F : Fr h0 h0.objs.size h1 m) (hc : h1.get? (h0.objs.size + 1) = some oc) (hoc : oc.data = .cell (some (.ref Xa)))
  (hw : Well w.params h0 (.ref Xa) (ofPy (PyData.list (ns.map PyData.int)))) (hl : ns.length ≤ 63) (hg : AllBare gens)
  (e1 : ∀ q, (Mine.pre.heap_1_1 q).lookup 259 = some fo) (e2 : fo.data = .func fd) (e3 : fd.body = .stmts (st0 :: body)) (hgl : fd.globals = mainGlobals) (hbi : fd.builtins = builtinsNs) (hk : namesOk fd.scope n259 = true)
  (hG : ∀ w : List Bool, w.length = 8 → GoodW w) (hS : ∀ (w : List Bool) (st hd : Nat), w.length = 8 → 2 ≤ st → st ≤ 4 → hd ≤ st → GoodS st hd w)
  (k : ∀ s', (∀ b o, b ∉ TB → h0.get? b = some o → s'.heap.get? b = some o) → TInv s'.heap → s'.os = os → AllBare s'.gens → Q (.ret (.bool true)) s') :
  wpAny (model Challenge.rw_tv0042_01.row.prog w) (callerA.deeper (callEnvC { fd with code := c } h0.objs.size f)) (execs body (callEnvC { fd with code := c } h0.objs.size f)) Q E { heap := h1, gens := gens, drawn := drawn, toks := tk, os := os } := by
 obtain ⟨fd', st0', body', ⟨fo', h1', h2'⟩, h3', hSX⟩ := P259.2
 obtain rfl : fo' = fo := Option.some.inj ((h1' w.params).symm.trans (e1 w.params))
 obtain rfl : fd' = fd := by rw [e2] at h2'; exact (Data.func.inj h2').symm
 obtain ⟨rfl, rfl⟩ : st0' = st0 ∧ body' = body := by
  rw [e3] at h3'
  have := FuncBody.stmts.inj h3'
  obtain ⟨a, b⟩ := List.cons.inj this
  exact ⟨a.symm, b.symm⟩
 obtain ⟨H', l', hret⟩ := s259 hG hS ns hl
 have hT := tabs_of KX
 obtain ⟨hkf, hall, hnd⟩ := nameOk_of hk
 have g140 : h0.get? 140 = some (tabObj #[]) := (hT (144, 140) (.head _)).2
 have g147 : h0.get? 147 = some (tabObj #[]) := (hT (151, 147) (.tail _ (.head _))).2
 have l140 : 140 < h0.objs.size := Heap.lt_size g140
 have l147 : 147 < h0.objs.size := Heap.lt_size g147
 have sz1 : h0.objs.size + 1 < h1.objs.size := Heap.lt_size hc
 have O : (fx { fd' with code := c } f n259 7 (callerA.deeper (callEnvC { fd' with code := c } h0.objs.size f)) (ghostOf h0 TBs) h0.objs.size ⟨ghostOf h0 TBs, [], ghostOf h0 TBs, []⟩ [callEnvC { fd' with code := c } h0.objs.size f]).Ok (Wc w topProg (loose ++ (recsOf p).map (·.name) ++ (litsOf p).map (·.1) ++ (clssOf p loose).map (·.name)) mean mg mb) := by
  refine ⟨ghost_K hT (k0_of KX) k0_noTabs, ghost_top hT T, rfl, fun _ _ e => e, ?_, ?_, rfl, rfl, hgl, hbi, hkf, ?_, ?_, ?_, ?_⟩
  ·intro h ⟨m', F'⟩ _
   refine .cons (by show fd'.scope.kind ≠ _; rw [hkf]; decide) rfl F'.ns ?_ trivial
   show (ghostOf h0 TBs).get? h0.objs.size = none
   cases q : (ghostOf h0 TBs).get? h0.objs.size with
   | none => rfl
   | some o => exact absurd (Heap.lt_size (of_hideAll _ q)) (Nat.lt_irrefl _)
  ·intro e he
   rw [List.mem_singleton.mp he]
   exact .inl rfl
  ·intro i y k h
   obtain ⟨k', e1, e2⟩ := mem_names h
   have hm := List.mem_of_getElem? e1
   cases k' with
   | none => subst e2; exact nameOk_local (hall _ hm)
   | some k' =>
    subst e2
    have z := nameOk_cell (hall _ hm)
    exact ⟨.inl z.1, cellsFrom_at z.2.1, z.2.2⟩
  ·show ((namesAt h0.objs.size n259).map (·.1)).Nodup
   unfold namesAt
   rw [List.map_map]; exact hnd
  ·show (1 + claimMargin) + 1 + 8 * 7 + 8 < recursionLimit
   decide
  ·show 4 + 3 + 100 * 7 + 100 < cLine
   decide
 have Fo : FrOk (fx { fd' with code := c } f n259 7 (callerA.deeper (callEnvC { fd' with code := c } h0.objs.size f)) (ghostOf h0 TBs) h0.objs.size ⟨ghostOf h0 TBs, [], ghostOf h0 TBs, []⟩ [callEnvC { fd' with code := c } h0.objs.size f]) :=
  ⟨⟨[], rfl⟩, rfl, fun e he => by rw [List.mem_singleton.mp he]; exact .inl rfl, fun a ha => absurd ha List.not_mem_nil⟩
 have hM : ∀ b o, b ∉ TB → h0.get? b = some o → b ∉ (fx { fd' with code := c } f n259 7 (callerA.deeper (callEnvC { fd' with code := c } h0.objs.size f)) (ghostOf h0 TBs) h0.objs.size ⟨ghostOf h0 TBs, [], ghostOf h0 TBs, []⟩ [callEnvC { fd' with code := c } h0.objs.size f]).M [] := by
  intro b o hb e hm
  have hlt := Heap.lt_size e
  have hm : b ∈ [h0.objs.size, h0.objs.size + 1 + 0, 140, 147] := hm
  simp only [List.mem_cons, List.not_mem_nil, or_false] at hm
  rcases hm with h | h | h | h
  ·rw [h] at hlt; exact absurd hlt (Nat.lt_irrefl _)
  ·rw [h] at hlt; exact absurd hlt (Nat.not_lt.mpr (Nat.le_succ _))
  ·exact hb (h ▸ .head _)
  ·exact hb (h ▸ .tail _ (.head _))
 have hal : ∃ vs, h0.get? Xa = some (lstO vs 0) ∧ WellAll w.params h0 vs (ofPys (ns.map PyData.int)) := by
  cases hw with
  | list e x => exact ⟨_, e, x⟩
 obtain ⟨vs, hXa, hvs⟩ := hal
 have S : SI (Wc w topProg (loose ++ (recsOf p).map (·.name) ++ (litsOf p).map (·.1) ++ (clssOf p loose).map (·.name)) mean mg mb) (fx { fd' with code := c } f n259 7 (callerA.deeper (callEnvC { fd' with code := c } h0.objs.size f)) (ghostOf h0 TBs) h0.objs.size ⟨ghostOf h0 TBs, [], ghostOf h0 TBs, []⟩ [callEnvC { fd' with code := c } h0.objs.size f]) [] [some (.lst (ns.map V.int)), none, none, none] [] { heap := h1, gens := gens, drawn := drawn, toks := tk, os := os } := by
  refine ⟨⟨m, ghost_fr hT F, ?_⟩, ?_, ⟨rfl, fun i _ _ h => by cases h⟩, ?_, ?_, ?_, ?_, hg, fun a ha => absurd ha List.not_mem_nil⟩
  ·intro i x kk v hn hv
   have hi : i = 0 := by
    rcases i with _ | _ | _ | _ | i
    ·rfl
    ·cases hv
    ·cases hv
    ·cases hv
    ·cases hv
   subst hi
   cases hn
   cases hv
   refine ⟨.ref Xa, ⟨oc, hc, hoc⟩, .lst (n := 0) ⟨F.keep _ _ hXa, ?_⟩ (ints_well hvs)⟩
   refine hM Xa _ (fun h => ?_) hXa
   rcases List.mem_cons.mp h with h | h
   ·rw [h, g140] at hXa; cases hXa
   ·rw [List.mem_singleton.mp h, g147] at hXa; cases hXa
  ·intro a ha
   have ha : a ∈ [h0.objs.size + 1 + 0] := ha
   rw [List.mem_singleton.mp ha]
   exact ⟨_, oc, hc, hoc⟩
  ·show ([h0.objs.size, h0.objs.size + 1 + 0, 140, 147] : List Addr).Nodup
   have : ∀ n : Nat, 147 < n → ([n, n + 1 + 0, 140, 147] : List Nat).Nodup := fun n hn => by
    refine List.nodup_cons.mpr ⟨fun h => ?_, List.nodup_cons.mpr ⟨fun h => ?_, by decide⟩⟩
    ·simp only [List.mem_cons, List.not_mem_nil, or_false] at h; omega
    ·simp only [List.mem_cons, List.not_mem_nil, or_false] at h; omega
   exact this _ l147
  ·intro a ha
   have ha : a ∈ [h0.objs.size, h0.objs.size + 1 + 0, 140, 147] := ha
   have up : h0.objs.size ≤ a → (ghostOf h0 TBs).get? a = none := fun hle => by
    cases q : (ghostOf h0 TBs).get? a with
    | none => rfl
    | some o => exact absurd (Heap.lt_size (of_hideAll _ q)) (Nat.not_lt.mpr hle)
   simp only [List.mem_cons, List.not_mem_nil, or_false] at ha
   rcases ha with h | h | h | h
   ·exact up (h ▸ Nat.le_refl _)
   ·exact up (h ▸ Nat.le_succ _)
   ·rw [h]; exact hideAll_none _ (.head _)
   ·rw [h]; exact hideAll_none _ (.tail _ (.head _))
  ·intro a ha
   have ha : a ∈ [h0.objs.size, h0.objs.size + 1 + 0, 140, 147] := ha
   simp only [List.mem_cons, List.not_mem_nil, or_false] at ha
   rcases ha with h | h | h | h
   ·rw [h]; exact Nat.lt_of_succ_lt sz1
   ·rw [h]; exact sz1
   ·rw [h]; exact Nat.lt_of_lt_of_le l140 (Nat.le_of_lt (Nat.lt_of_succ_lt sz1))
   ·rw [h]; exact Nat.lt_of_lt_of_le l147 (Nat.le_of_lt (Nat.lt_of_succ_lt sz1))
  ·intro q hq
   obtain ⟨x1, x2⟩ := hT q hq
   have x1 := x1.keeps F.keep
   have x2 := F.keep _ _ x2
   exact ⟨#[], x1.tab x2, x1.code x2 trivial⟩
 refine hSX w _ _ _ mg mb _ _ _ _ _ c f O Fo _ _ _ _ _ _ _ Q E hret S fun X s' ρ' t S' r => ?_
 cases X with
 | ret Y =>
  have r : VR _ ρ' (.bool true) Y := r
  cases r
  exact k s' (fun b o hb e => (t.keep b o (F.keep b o e) (hM b o hb e)).1) S'.tb t.os S'.gens
 | next => exact r.elim
 | brk => exact r.elim
 | cont => exact r.elim
end
theorem old_of {q : Params} {h h' : Heap} (KX : (K1 q).In h) (k1 : ∀ b o, b ∉ TB → h.get? b = some o → h'.get? b = some o) (k2 : TInv h') : OldK h h' := by
 have hT := tabs_of KX
 have tab : ∀ q ∈ TBs, ∀ o, h.get? q.2 = some o → isCodeTable h q.2 ∧ o = tabObj #[] ∧ ∃ ps, h'.get? q.2 = some (tabObj ps) := fun q hq o e => by
  obtain ⟨x1, x2⟩ := hT q hq
  rw [x2] at e
  obtain ⟨ps, y1, _⟩ := k2 q hq
  exact ⟨(x1.tab x2).isCodeTable, (Option.some.inj e).symm, ps, y1.2⟩
 have which : ∀ b, b ∈ TB → ∃ q ∈ TBs, q.2 = b := fun b hb => by
  rcases List.mem_cons.mp hb with rfl | hb
  ·exact ⟨_, .head _, rfl⟩
  ·rw [List.mem_singleton.mp hb]
   exact ⟨_, .tail _ (.head _), rfl⟩
 refine ⟨fun b o e => ?_, fun b o e => ?_⟩
 ·by_cases hb : b ∈ TB
  ·obtain ⟨q, hq, rfl⟩ := which b hb
   obtain ⟨h1, rfl, ps, h2⟩ := tab q hq o e
   exact .inr (.inl ⟨h1, rfl, #[], ps, rfl, by rw [Array.empty_append]; exact h2⟩)
  ·exact .inl (k1 b o hb e)
 ·by_cases hb : b ∈ TB
  ·obtain ⟨q, hq, rfl⟩ := which b hb
   obtain ⟨_, _, ps, h2⟩ := tab q hq o e
   exact ⟨_, h2⟩
  ·exact ⟨_, k1 b o hb e⟩
noncomputable def fo259 (q : Params) : Obj := ((Mine.pre.heap_1_1 q).lookup 259).getD default
noncomputable def fd259 (q : Params) : FuncData := match (fo259 q).data with
 | .func fd => fd
 | _ => default
noncomputable def bd259 (q : Params) : List Stmt := match (fd259 q).body with
 | .stmts (_ :: b) => b
 | _ => []
noncomputable def st259 (q : Params) : Stmt := match (fd259 q).body with
 | .stmts (s :: _) => s
 | _ => default
end
end
end Mine
noncomputable def Mine.as1 : List Addr := [2, 3, 15, 17, 18, 20, 21, 29, 31, 32, 34, 35, 36, 38, 39, 41, 42, 43, 45, 46, 48, 49, 50, 52, 53, 55, 56, 57, 59, 60, 62, 63, 64, 66, 67, 69, 70, 71, 73, 74, 76, 77, 78, 80, 81, 83, 84, 85, 87, 88, 90, 91, 92, 93, 94, 95, 96, 99, 102, 107, 108, 109, 111, 112, 114, 115, 116, 118, 119, 121, 122, 123, 124, 126, 127, 129, 130, 131, 132, 134, 135, 137, 138, 139, 141, 142, 144, 145, 146, 148, 149, 151, 152, 153, 154, 156, 157, 159, 160, 161, 163, 164, 166, 167, 168, 169, 171, 172, 174, 175, 176, 177, 178, 179, 180, 183, 185, 186, 188, 189, 190, 192, 193, 195, 196, 197, 199, 200, 202, 203, 204, 206, 207, 209, 210, 211, 213, 214, 216, 217, 218, 220, 221, 223, 224, 225, 228, 229, 230, 233, 234, 235, 238, 239, 240, 243, 244, 245, 248, 249, 250, 253, 254, 255, 258, 140, 147]
namespace Mine.top
theorem tw10005945817407372193 : True := ⟨⟩
theorem tw10006222313960134694 : True := ⟨⟩
theorem tw10090393231696489298 : True := ⟨⟩
theorem tw10187264123177260123 : True := ⟨⟩
theorem tw10404823597219466188 : True := ⟨⟩
theorem tw1047907039808853306 : True := ⟨⟩
theorem tw10617020205504526918 : True := ⟨⟩
theorem tw10773188271377071773 : True := ⟨⟩
theorem tw10936122117785486979 : True := ⟨⟩
theorem tw10996937224433265937 : True := ⟨⟩
theorem tw11133666699803404755 : True := ⟨⟩
theorem tw11279390925490393535 : True := ⟨⟩
theorem tw11334350811105764591 : True := ⟨⟩
theorem tw11334415319851112604 : True := ⟨⟩
theorem tw1139600151236580504 : True := ⟨⟩
theorem tw11423202765487971197 : True := ⟨⟩
theorem tw11430207588045935325 : True := ⟨⟩
theorem tw11459358961799972967 : True := ⟨⟩
theorem tw11613256710310857696 : True := ⟨⟩
theorem tw11762496359356365647 : True := ⟨⟩
theorem tw11858546649754279707 : True := ⟨⟩
theorem tw1195175773429642966 : True := ⟨⟩
theorem tw11960245374511038805 : True := ⟨⟩
theorem tw12012865196380796599 : True := ⟨⟩
theorem tw12094960947251128927 : True := ⟨⟩
theorem tw1212798325632107971 : True := ⟨⟩
theorem tw12342655685612074800 : True := ⟨⟩
theorem tw12376051458212225564 : True := ⟨⟩
theorem tw12385144161495827662 : True := ⟨⟩
theorem tw12392516345856041104 : True := ⟨⟩
theorem tw12425085872883035938 : True := ⟨⟩
theorem tw12535971307161669396 : True := ⟨⟩
theorem tw12540527436937284434 : True := ⟨⟩
theorem tw12595513604769963753 : True := ⟨⟩
theorem tw12622177474791663080 : True := ⟨⟩
theorem tw1275901062530889299 : True := ⟨⟩
theorem tw12819366960792805191 : True := ⟨⟩
theorem tw1284575025550258836 : True := ⟨⟩
theorem tw12958502747184954254 : True := ⟨⟩
theorem tw13091174067606910046 : True := ⟨⟩
theorem tw13120753694373217308 : True := ⟨⟩
theorem tw13160728816969591200 : True := ⟨⟩
theorem tw13264354339760550358 : True := ⟨⟩
theorem tw13272337422414781067 : True := ⟨⟩
theorem tw13303987763403120937 : True := ⟨⟩
theorem tw13345470168829271861 : True := ⟨⟩
theorem tw13928562000808390012 : True := ⟨⟩
theorem tw14282377253939248939 : True := ⟨⟩
theorem tw14349089067433371257 : True := ⟨⟩
theorem tw14372152842798730730 : True := ⟨⟩
theorem tw14390669486469195807 : True := ⟨⟩
theorem tw14459580976405569124 : True := ⟨⟩
theorem tw14502225709538309166 : True := ⟨⟩
theorem tw14597223018079223185 : True := ⟨⟩
theorem tw14608685727046917156 : True := ⟨⟩
theorem tw14611434983143301774 : True := ⟨⟩
theorem tw14796646475526232899 : True := ⟨⟩
theorem tw14823308797102314842 : True := ⟨⟩
theorem tw14826035006057030972 : True := ⟨⟩
theorem tw1483126911874232274 : True := ⟨⟩
theorem tw14861896470697024400 : True := ⟨⟩
theorem tw14901070454687303710 : True := ⟨⟩
theorem tw14917401599646851644 : True := ⟨⟩
theorem tw14987219478266130788 : True := ⟨⟩
theorem tw15019589843779357958 : True := ⟨⟩
theorem tw1516213087968936877 : True := ⟨⟩
theorem tw15169761463676818070 : True := ⟨⟩
theorem tw15177526630643400193 : True := ⟨⟩
theorem tw15240379268576122478 : True := ⟨⟩
theorem tw15304316869575863853 : True := ⟨⟩
theorem tw15362295582089109014 : True := ⟨⟩
theorem tw15503665604740900718 : True := ⟨⟩
theorem tw15569959144833144457 : True := ⟨⟩
theorem tw15646934709686841381 : True := ⟨⟩
theorem tw15749434781750407773 : True := ⟨⟩
theorem tw15860264024139754761 : True := ⟨⟩
theorem tw15878805988109762761 : True := ⟨⟩
theorem tw15928431593259215692 : True := ⟨⟩
theorem tw15976228082101565994 : True := ⟨⟩
theorem tw15985961358823992270 : True := ⟨⟩
theorem tw16044733080236030384 : True := ⟨⟩
theorem tw16058212318047004132 : True := ⟨⟩
theorem tw16123964013534891561 : True := ⟨⟩
theorem tw16155163154822807229 : True := ⟨⟩
theorem tw16273406610938067001 : True := ⟨⟩
theorem tw16325430554902658873 : True := ⟨⟩
theorem tw16352630495959832749 : True := ⟨⟩
theorem tw16420938139371093754 : True := ⟨⟩
theorem tw16439428074185983240 : True := ⟨⟩
theorem tw16666122058527598403 : True := ⟨⟩
theorem tw16759092144687519636 : True := ⟨⟩
theorem tw1676862907878916244 : True := ⟨⟩
theorem tw16782997733028217545 : True := ⟨⟩
theorem tw16840627104734473223 : True := ⟨⟩
theorem tw16885616592811714743 : True := ⟨⟩
theorem tw17177869089781658578 : True := ⟨⟩
theorem tw17315540178315561739 : True := ⟨⟩
theorem tw1732150942055357024 : True := ⟨⟩
theorem tw17323899518341599180 : True := ⟨⟩
theorem tw1736530178072539846 : True := ⟨⟩
theorem tw17470836177267949868 : True := ⟨⟩
theorem tw17486766287000646611 : True := ⟨⟩
theorem tw17488442907946513036 : True := ⟨⟩
theorem tw17555251805378815213 : True := ⟨⟩
theorem tw17810072253543177317 : True := ⟨⟩
theorem tw17886615442053742456 : True := ⟨⟩
theorem tw18008055252877512497 : True := ⟨⟩
theorem tw18034075008235765660 : True := ⟨⟩
theorem tw18155606418883590854 : True := ⟨⟩
theorem tw18186074749648716422 : True := ⟨⟩
theorem tw18194552166560175392 : True := ⟨⟩
theorem tw1869187583165140508 : True := ⟨⟩
theorem tw1886144042066472794 : True := ⟨⟩
theorem tw2057334267981633021 : True := ⟨⟩
theorem tw2126296398998916975 : True := ⟨⟩
theorem tw216529984938456764 : True := ⟨⟩
theorem tw2287823674025257028 : True := ⟨⟩
theorem tw2462062305354472974 : True := ⟨⟩
theorem tw2464713573024523455 : True := ⟨⟩
theorem tw2514443458684651071 : True := ⟨⟩
theorem tw2555065506035805374 : True := ⟨⟩
theorem tw2617719716777270872 : True := ⟨⟩
theorem tw2731995056826638727 : True := ⟨⟩
theorem tw2732273902793177162 : True := ⟨⟩
theorem tw2741389259953327712 : True := ⟨⟩
theorem tw2782073688633401757 : True := ⟨⟩
theorem tw2812155379371279736 : True := ⟨⟩
theorem tw2835187731363253809 : True := ⟨⟩
theorem tw2867133514656366558 : True := ⟨⟩
theorem tw2924597203103170677 : True := ⟨⟩
theorem tw3195968871104189447 : True := ⟨⟩
theorem tw342308947776675178 : True := ⟨⟩
theorem tw352232786441526191 : True := ⟨⟩
theorem tw3561193834555079511 : True := ⟨⟩
theorem tw3730354652608582461 : True := ⟨⟩
theorem tw3776753064480771068 : True := ⟨⟩
theorem tw3784791708983455732 : True := ⟨⟩
theorem tw390997316461189296 : True := ⟨⟩
theorem tw4159251561096739476 : True := ⟨⟩
theorem tw4166218997396506358 : True := ⟨⟩
theorem tw4186445540838780016 : True := ⟨⟩
theorem tw4205137553216949640 : True := ⟨⟩
theorem tw4213018616267185653 : True := ⟨⟩
theorem tw427269002284569659 : True := ⟨⟩
theorem tw4299629679881509495 : True := ⟨⟩
theorem tw4321519831107876412 : True := ⟨⟩
theorem tw4498253355057717688 : True := ⟨⟩
theorem tw453181688931711583 : True := ⟨⟩
theorem tw4551080515912023512 : True := ⟨⟩
theorem tw4571971715460732019 : True := ⟨⟩
theorem tw4656485037274611717 : True := ⟨⟩
theorem tw4671429814451907529 : True := ⟨⟩
theorem tw4713442408853163898 : True := ⟨⟩
theorem tw4794103334133158261 : True := ⟨⟩
theorem tw5088376156974544275 : True := ⟨⟩
theorem tw5118827330378232414 : True := ⟨⟩
theorem tw517144808224063464 : True := ⟨⟩
theorem tw5225153198818245361 : True := ⟨⟩
theorem tw5244899138074338376 : True := ⟨⟩
theorem tw5303079699428457377 : True := ⟨⟩
theorem tw5476889619067714990 : True := ⟨⟩
theorem tw5523086135645875356 : True := ⟨⟩
theorem tw5581607755468803823 : True := ⟨⟩
theorem tw5667650583090716360 : True := ⟨⟩
theorem tw575894324575664597 : True := ⟨⟩
theorem tw5868845118606482295 : True := ⟨⟩
theorem tw5889316905344633881 : True := ⟨⟩
theorem tw5969682004907312646 : True := ⟨⟩
theorem tw6127594578889010139 : True := ⟨⟩
theorem tw6187478851450931391 : True := ⟨⟩
theorem tw6240723676877644813 : True := ⟨⟩
theorem tw6286779285267259847 : True := ⟨⟩
theorem tw6333448901615975916 : True := ⟨⟩
theorem tw6370870915552960936 : True := ⟨⟩
theorem tw6473336682457920079 : True := ⟨⟩
theorem tw6491118196486620199 : True := ⟨⟩
theorem tw6520327441239513222 : True := ⟨⟩
theorem tw6749217079512962374 : True := ⟨⟩
theorem tw6756868429301003459 : True := ⟨⟩
theorem tw6812286434817487243 : True := ⟨⟩
theorem tw6859976401760118174 : True := ⟨⟩
theorem tw6883741973766446791 : True := ⟨⟩
theorem tw6898770573198911631 : True := ⟨⟩
theorem tw6906291655842520137 : True := ⟨⟩
theorem tw6919701780365589675 : True := ⟨⟩
theorem tw7008692893051332821 : True := ⟨⟩
theorem tw705360758644809490 : True := ⟨⟩
theorem tw708234853630380328 : True := ⟨⟩
theorem tw728428047077509346 : True := ⟨⟩
theorem tw7297446738713254254 : True := ⟨⟩
theorem tw7414872774492366064 : True := ⟨⟩
theorem tw7458633546980236471 : True := ⟨⟩
theorem tw7527032243904285869 : True := ⟨⟩
theorem tw7557910624720293991 : True := ⟨⟩
theorem tw7673058066778466091 : True := ⟨⟩
theorem tw7740461459972228597 : True := ⟨⟩
theorem tw775762912060472103 : True := ⟨⟩
theorem tw7847650389618582240 : True := ⟨⟩
theorem tw795583310449317561 : True := ⟨⟩
theorem tw7990429038631628895 : True := ⟨⟩
theorem tw814325599930780420 : True := ⟨⟩
theorem tw8143265674769528471 : True := ⟨⟩
theorem tw8184561461823581802 : True := ⟨⟩
theorem tw8265191368974092141 : True := ⟨⟩
theorem tw8345894832289464959 : True := ⟨⟩
theorem tw8363718466572441477 : True := ⟨⟩
theorem tw8435561252592420358 : True := ⟨⟩
theorem tw8443935842833279946 : True := ⟨⟩
theorem tw8507776931139520737 : True := ⟨⟩
theorem tw8538268897159353584 : True := ⟨⟩
theorem tw8598144960395782539 : True := ⟨⟩
theorem tw8640399195822439974 : True := ⟨⟩
theorem tw864819663365544661 : True := ⟨⟩
theorem tw8689318265317240412 : True := ⟨⟩
theorem tw8735323631387419056 : True := ⟨⟩
theorem tw8810280945414196856 : True := ⟨⟩
theorem tw8892184565913893157 : True := ⟨⟩
theorem tw9059672392935016618 : True := ⟨⟩
theorem tw9059832203979395877 : True := ⟨⟩
theorem tw9063741608606530840 : True := ⟨⟩
theorem tw9068506458530023791 : True := ⟨⟩
theorem tw908825868028484722 : True := ⟨⟩
theorem tw9229161468869434483 : True := ⟨⟩
theorem tw9259421805112917234 : True := ⟨⟩
theorem tw9305691244287143441 : True := ⟨⟩
theorem tw9378254376102152143 : True := ⟨⟩
theorem tw9382581127745807760 : True := ⟨⟩
theorem tw9437893007894698314 : True := ⟨⟩
theorem tw9503340733035011235 : True := ⟨⟩
theorem tw956942650209027819 : True := ⟨⟩
theorem tw9631074621892390191 : True := ⟨⟩
theorem tw9759319705405543751 : True := ⟨⟩
end Mine.top
set_option Elab.async true
open Mine
theorem Mine.top : PySem.Challenge.rw_tv0042_01.Holds := by
 w_on
 o_law
 (o_head (kHook Mine.K1 Mine.as1 (fun _ => by kernel_rfl!)))
 (case hw => w_witness2)
 w_strict (
  intro w s₀ s₁ mg mb G Y fa o pm cd doc dV kV ho hd hcd hD hmg hg args vals as hpre hlay hrd hwl hlo
  have KX := kIn_of Y
  refine Ground.open G ?_
  intro T B D TE TW
  try (refine guard_noD D (by decide +kernel) ?_; clear D)
  clear hmg
  wrow_args hpre hlay hrd hwl hlo
  all_goals (
   first | refine callC_kw (enter_call ?_) | refine enter_call ?_
   w_top on
   w_call any ho hd hcd hD T F)
  rename News _ _ _ _ => N0
  rename _ = Data.cell _ => hoc
  rename Well _ _ _ _ => w1
  rename ¬ _ < _ => hcond
  refine join_law (p := _) (fd := fd259 w.params) (fo := fo259 w.params) (st0 := st259 w.params) (body := bd259 w.params) (c := cd) KX T F (N0 _ (.head _)).1 (hoc.trans ?a1) w1 ?a2 (AllBare.of_eq hg) ?a3 ?a4 ?a5 ?a6 ?a7 ?a8 allG allS ?a9
  case a1 => rfl
  case a2 => omega
  case a3 => intro q; kernel_rfl!
  case a4 => kernel_rfl!
  case a5 => kernel_rfl!
  case a6 => kernel_rfl!
  case a7 => kernel_rfl!
  case a8 => kernel_rfl!
  case a9 =>
   intro s' k1 k2 k3 k4
   refine ⟨.inl ⟨.bool true, .bool true, [], rfl, ?b1, .bool true, ?b2, fun _ => ⟨List.nodup_nil, fun a h => absurd h List.not_mem_nil⟩⟩, old_of KX k1 k2, k3, k4⟩
   case b1 => intro cls; rfl
   case b2 => kernel_rfl!)
theorem PySem.Challenge.cw_tv0042_01_holds : PySem.Challenge.rw_tv0042_01.Holds :=
  Mine.top
