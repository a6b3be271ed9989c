import PyProof.Rows.All
import Wide.All
import OpenK.AllK
import Wide.FinOn
import PyProof.ConsumeS
import PyProof.CollectIter
import PyProof.ZipIter
import PyProof.WalksEnum
import KE.BytesMake
import KE.KSlice
import KE.KLcFree
import KE.KEqDat
import KE.KLcPair
import KE.KPairComp
import KE.KRevSl
import PySem.Challenge.RW_pd0128_01
set_option Elab.async false
section
open PySem PySem.W PyProof.Rows
namespace Mine
/-- the row of a small def of the same program: its head lays the program's objects -/
abbrev sepRow : OpenRow := { PySem.Challenge.rw_pd0128_01.row with name := Str.ofString "_get_sep", args := [.bytes], returns := .bytes, pre := .lit (.bool true), post := .lit (.bool true), keeps := [], pinned := false }
theorem hd.tw17087091549796120035 : True := .intro
theorem hd.tw15616948245753086127 : True := .intro
theorem hd.tw978945382295711627 : True := .intro
theorem hd.tw5961118342813265553 : True := .intro
theorem hd.tw6293948785866598258 : True := .intro
theorem hd.tw9641152695372364146 : True := .intro
theorem hd.tw5148922909946612681 : True := .intro
theorem hd.tw14620637471214046174 : True := .intro
theorem hd.tw17808607793243039243 : True := .intro
theorem hd.tw2867327485932766208 : True := .intro
theorem hd.tw3259873300814134281 : True := .intro
theorem hd.tw11117797201346649052 : True := .intro
theorem hd.tw17397052962432165270 : True := .intro
theorem hd.tw8343274005884668182 : True := .intro
theorem hd.tw8414420238210853183 : True := .intro
theorem hd.tw13330244855972007585 : True := .intro
theorem hd.tw2114630138375439770 : True := .intro
theorem hd.tw7752767780024739350 : True := .intro
theorem hd.tw17650839729002327288 : True := .intro
theorem hd.tw8841187974860818712 : True := .intro
theorem hd.tw10296555574160606952 : True := .intro
theorem hd.tw5567388512258382067 : True := .intro
theorem hd.tw11893437276241958245 : True := .intro
theorem hd.tw18300207936620678264 : True := .intro
theorem hd.tw12173100003817136821 : True := .intro
theorem hd.tw4115565904173853331 : True := .intro
theorem hd.tw10111801491309104144 : True := .intro
theorem hd.tw8832402302947667407 : True := .intro
theorem hd.tw12901994302517312135 : True := .intro
theorem hd.tw13225837485096350037 : True := .intro
theorem hd.tw11611254532205267744 : True := .intro
theorem hd.tw16037735763661986305 : True := .intro
theorem hd.tw9421340871869096474 : True := .intro
theorem hd.tw701787995468756871 : True := .intro
theorem hd.tw7914949630228597729 : True := .intro
theorem hd.tw7347323935397111125 : True := .intro
theorem hd.tw16222499966895952523 : True := .intro
theorem hd.tw9277588360372424766 : True := .intro
theorem hd.tw5978321128707920903 : True := .intro
theorem hd.tw6060742912462422084 : True := .intro
theorem hd.tw10258999931320997221 : True := .intro
theorem hd.tw10170382586518783626 : True := .intro
theorem hd.tw17574625026820762457 : True := .intro
theorem hd.tw4225703048834024713 : True := .intro
theorem hd.tw2037972409741389414 : True := .intro
theorem hd.tw16945582573551092051 : True := .intro
theorem hd.tw15527848837575444561 : True := .intro
theorem hd.tw13828106393651249627 : True := .intro
theorem hd.tw4272726840584523970 : True := .intro
theorem hd.tw11447273431469733495 : True := .intro
theorem hd.tw16828841361933241965 : True := .intro
theorem hd.tw15595854959937240912 : True := .intro
theorem hd.tw17950676927832955104 : True := .intro
theorem hd.tw7109450275434161582 : True := .intro
theorem hd.tw10458740792067480800 : True := .intro
theorem hd.tw3219085151875037572 : True := .intro
theorem hd.tw15833661619300960221 : True := .intro
theorem hd.tw16091413853298234908 : True := .intro
theorem hd.tw3530705653197291679 : True := .intro
theorem hd.tw7816577550770918932 : True := .intro
theorem hd.tw54727356038600574 : True := .intro
theorem hd.tw6820862383352777685 : True := .intro
theorem hd.tw6276725880618359904 : True := .intro
theorem hd.tw3789350110615891812 : True := .intro
theorem hd.tw4478166936697009375 : True := .intro
theorem hd.tw18103342009636024947 : True := .intro
theorem hd.tw15967140613478806237 : True := .intro
theorem hd.tw16194383521188589630 : True := .intro
theorem hd.tw12598724348716800887 : True := .intro
theorem hd.tw11210553801493137410 : True := .intro
theorem hd.tw18129098259903571784 : True := .intro
theorem hd.tw7059539395403794157 : True := .intro
theorem hd.tw1413172679324656950 : True := .intro
theorem hd.tw9719896912496429819 : True := .intro
theorem hd.tw6154236146145331571 : True := .intro
theorem hd.tw16464124811512333359 : True := .intro
theorem hd.tw5130813555471234732 : True := .intro
theorem hd.tw15089522573102190283 : True := .intro
theorem hd.tw11917015161858427179 : True := .intro
theorem hd.tw12472140842598129695 : True := .intro
theorem hd.tw12451258846644117672 : True := .intro
theorem hd.tw13825509269061658866 : True := .intro
theorem hd.tw14747105943602037286 : True := .intro
theorem hd.tw11387694631328260470 : True := .intro
theorem hd.tw4360684699965382250 : True := .intro
theorem hd.tw17672654358674132775 : True := .intro
theorem hd.tw10360471539772378328 : True := .intro
theorem hd.tw8735263284916673568 : True := .intro
theorem hd.tw13267510147771200024 : True := .intro
theorem hd.tw17681399029576232318 : True := .intro
theorem hd.tw8959176491354863721 : True := .intro
theorem hd.tw5559951931751713254 : True := .intro
theorem hd.tw5511420028821071320 : True := .intro
theorem hd.tw15153279154761372571 : True := .intro
theorem hd.tw6555240042291301478 : True := .intro
theorem hd.tw6411954120941647267 : True := .intro
theorem hd.tw922143313871775805 : True := .intro
theorem hd.tw10792051664901133789 : True := .intro
theorem hd.tw12070051907170230399 : True := .intro
theorem hd.tw11232374478483605306 : True := .intro
theorem hd.tw11959044307898795358 : True := .intro
theorem hd.tw9960721518486171458 : True := .intro
theorem hd.tw1997569388931296116 : True := .intro
theorem hd.tw1353933474123613458 : True := .intro
theorem hd.tw17054507655720011243 : True := .intro
theorem hd.tw13956165655338008812 : True := .intro
theorem hd.tw8364274539379898114 : True := .intro
theorem hd.tw4402725079659364252 : True := .intro
theorem hd.tw1600037746751723098 : True := .intro
theorem hd.tw8458067239894703972 : True := .intro
theorem hd.tw8226494294326810461 : True := .intro
theorem hd.tw11465210709893060100 : True := .intro
theorem hd.tw3451239065008710300 : True := .intro
theorem hd.tw11319097763535126812 : True := .intro
theorem hd.tw15759970867653108152 : True := .intro
theorem hd.tw6407587892757256292 : True := .intro
theorem hd.tw8457440626546761165 : True := .intro
theorem hd.tw6082411064634330575 : True := .intro
theorem hd.tw13338143212406534295 : True := .intro
theorem hd.tw9237616624170024493 : True := .intro
theorem hd.tw7754304195085646258 : True := .intro
theorem hd.tw10258225898301398825 : True := .intro
theorem hd.tw13753220567063992666 : True := .intro
theorem hd.tw3493717111155160527 : True := .intro
theorem hd.tw22551697357593593 : True := .intro
theorem hd.tw6291416237084387574 : True := .intro
theorem hd.tw6892424819385984264 : True := .intro
theorem hd.tw6767318904944593275 : True := .intro
theorem hd.tw10601615944963115059 : True := .intro
theorem hd.tw7296583596125217682 : True := .intro
theorem hd.tw5461583852855630226 : True := .intro
theorem hd.tw8086110750863094267 : True := .intro
theorem hd.tw12271959270614036898 : True := .intro
theorem hd.tw3646829019195819677 : True := .intro
theorem hd.tw17177331786930743035 : True := .intro
theorem hd.tw4325921153153474475 : True := .intro
theorem hd.tw17542962492245011380 : True := .intro
theorem hd.tw14015909994521340511 : True := .intro
theorem hd.tw12797040952259185971 : True := .intro
theorem hd.tw11660266114150955751 : True := .intro
theorem hd.tw6442067068224118133 : True := .intro
theorem hd.tw16477043939570097188 : True := .intro
theorem hd.tw3229955645248102723 : True := .intro
theorem hd.tw9014375795449043846 : True := .intro
theorem hd.tw2068664650715991707 : True := .intro
theorem hd.tw5190246844813560578 : True := .intro
theorem hd.tw14103535550066685397 : True := .intro
theorem hd.tw16432713993328977331 : True := .intro
theorem hd.tw7759229714527045040 : True := .intro
theorem hd.tw7028611270464810887 : True := .intro
theorem hd.tw14246236162039180721 : True := .intro
theorem hd.tw6305734824756694309 : True := .intro
theorem hd.tw2708950531961675432 : True := .intro
theorem hd.tw12023040214023829324 : True := .intro
set_option Elab.async true in
set_option maxRecDepth 100000 in
set_option maxHeartbeats 8000000 in
theorem hd : sepRow.Holds := by
  w_on
  k_head
  case hw => w_witness2
  case hc => w_strict k_go
/-- the objects that the law reaches, by address -/
noncomputable def lawK : Params → Frag := fun P => (nat_lit 2, PySem.W.boot_o_2 P) :: (nat_lit 3, Mine.hd.o_1_107 P) :: (nat_lit 15, Mine.hd.o_1_18 P) :: (nat_lit 17, Mine.hd.o_1_20 P) :: (nat_lit 18, Mine.hd.o_1_21 P) :: (nat_lit 20, Mine.hd.o_1_23 P) :: (nat_lit 21, Mine.hd.o_1_24 P) :: (nat_lit 22, Mine.hd.o_1_25 P) :: (nat_lit 24, Mine.hd.o_1_27 P) :: (nat_lit 25, Mine.hd.o_1_28 P) :: (nat_lit 27, Mine.hd.o_1_30 P) :: (nat_lit 28, Mine.hd.o_1_31 P) :: (nat_lit 29, Mine.hd.o_1_32 P) :: (nat_lit 36, Mine.hd.o_1_39 P) :: (nat_lit 38, Mine.hd.o_1_41 P) :: (nat_lit 39, Mine.hd.o_1_42 P) :: (nat_lit 41, Mine.hd.o_1_44 P) :: (nat_lit 42, Mine.hd.o_1_45 P) :: (nat_lit 43, Mine.hd.o_1_46 P) :: (nat_lit 44, Mine.hd.o_1_47 P) :: (nat_lit 45, Mine.hd.o_1_56 P) :: (nat_lit 48, Mine.hd.o_1_57 P) :: (nat_lit 55, Mine.hd.o_1_64 P) :: (nat_lit 57, Mine.hd.o_1_66 P) :: (nat_lit 58, Mine.hd.o_1_67 P) :: (nat_lit 60, Mine.hd.o_1_69 P) :: (nat_lit 61, Mine.hd.o_1_70 P) :: (nat_lit 62, Mine.hd.o_1_71 P) :: (nat_lit 64, Mine.hd.o_1_73 P) :: (nat_lit 65, Mine.hd.o_1_74 P) :: (nat_lit 67, Mine.hd.o_1_76 P) :: (nat_lit 68, Mine.hd.o_1_77 P) :: (nat_lit 69, Mine.hd.o_1_78 P) :: (nat_lit 71, Mine.hd.o_1_80 P) :: (nat_lit 72, Mine.hd.o_1_81 P) :: (nat_lit 74, Mine.hd.o_1_83 P) :: (nat_lit 75, Mine.hd.o_1_84 P) :: (nat_lit 76, Mine.hd.o_1_85 P) :: (nat_lit 77, Mine.hd.o_1_86 P) :: (nat_lit 78, Mine.hd.o_1_87 P) :: (nat_lit 81, Mine.hd.o_1_90 P) :: (nat_lit 83, Mine.hd.o_1_92 P) :: (nat_lit 84, Mine.hd.o_1_93 P) :: (nat_lit 86, Mine.hd.o_1_95 P) :: (nat_lit 87, Mine.hd.o_1_96 P) :: (nat_lit 88, Mine.hd.o_1_97 P) :: (nat_lit 90, Mine.hd.o_1_99 P) :: (nat_lit 91, Mine.hd.o_1_100 P) :: (nat_lit 93, Mine.hd.o_1_102 P) :: (nat_lit 94, Mine.hd.o_1_103 P) :: (nat_lit 95, Mine.hd.o_1_109 P) :: (nat_lit 97, Mine.hd.o_1_111 P) :: (nat_lit 98, Mine.hd.o_1_112 P) :: (nat_lit 100, Mine.hd.o_1_114 P) :: (nat_lit 101, Mine.hd.o_1_115 P) :: (nat_lit 102, Mine.hd.o_1_116 P) :: (nat_lit 104, Mine.hd.o_1_118 P) :: (nat_lit 105, Mine.hd.o_1_119 P) :: (nat_lit 107, Mine.hd.o_1_121 P) :: (nat_lit 108, Mine.hd.o_1_122 P) :: (nat_lit 109, Mine.hd.o_1_123 P) :: (nat_lit 111, Mine.hd.o_1_125 P) :: (nat_lit 112, Mine.hd.o_1_126 P) :: (nat_lit 114, Mine.hd.o_1_128 P) :: (nat_lit 115, Mine.hd.o_1_129 P) :: (nat_lit 116, Mine.hd.o_1_130 P) :: (nat_lit 118, Mine.hd.o_1_132 P) :: (nat_lit 119, Mine.hd.o_1_133 P) :: (nat_lit 121, Mine.hd.o_1_135 P) :: (nat_lit 122, Mine.hd.o_1_136 P) :: (nat_lit 123, Mine.hd.o_1_137 P) :: (nat_lit 126, Mine.hd.o_1_140 P) :: (nat_lit 127, Mine.hd.o_1_141 P) :: (nat_lit 128, Mine.hd.o_1_142 P) :: (nat_lit 130, Mine.hd.o_1_144 P) :: (nat_lit 131, Mine.hd.o_1_145 P) :: (nat_lit 133, Mine.hd.o_1_147 P) :: (nat_lit 134, Mine.hd.o_1_148 P) :: (nat_lit 135, Mine.hd.o_1_149 P) :: (nat_lit 137, Mine.hd.o_1_151 P) :: (nat_lit 138, Mine.hd.o_1_152 P) :: (nat_lit 140, Mine.hd.o_1_154 P) :: (nat_lit 141, Mine.hd.o_1_155 P) :: (nat_lit 142, Mine.hd.o_1_156 P) :: (nat_lit 144, Mine.hd.o_1_158 P) :: (nat_lit 145, Mine.hd.o_1_159 P) :: (nat_lit 147, Mine.hd.o_1_161 P) :: (nat_lit 148, Mine.hd.o_1_162 P) :: (nat_lit 149, Mine.hd.o_1_163 P) :: (nat_lit 151, Mine.hd.o_1_165 P) :: (nat_lit 152, Mine.hd.o_1_166 P) :: (nat_lit 154, Mine.hd.o_1_168 P) :: (nat_lit 155, Mine.hd.o_1_169 P) :: (nat_lit 156, Mine.hd.o_1_170 P) :: (nat_lit 158, Mine.hd.o_1_172 P) :: (nat_lit 159, Mine.hd.o_1_173 P) :: (nat_lit 161, Mine.hd.o_1_175 P) :: (nat_lit 162, Mine.hd.o_1_176 P) :: (nat_lit 163, Mine.hd.o_1_177 P) :: (nat_lit 166, Mine.hd.o_1_180 P) :: (nat_lit 167, Mine.hd.o_1_181 P) :: []
noncomputable def lawAs : List Addr := 2 :: 3 :: 15 :: 17 :: 18 :: 20 :: 21 :: 22 :: 24 :: 25 :: 27 :: 28 :: 29 :: 36 :: 38 :: 39 :: 41 :: 42 :: 43 :: 44 :: 45 :: 48 :: 55 :: 57 :: 58 :: 60 :: 61 :: 62 :: 64 :: 65 :: 67 :: 68 :: 69 :: 71 :: 72 :: 74 :: 75 :: 76 :: 77 :: 78 :: 81 :: 83 :: 84 :: 86 :: 87 :: 88 :: 90 :: 91 :: 93 :: 94 :: 95 :: 97 :: 98 :: 100 :: 101 :: 102 :: 104 :: 105 :: 107 :: 108 :: 109 :: 111 :: 112 :: 114 :: 115 :: 116 :: 118 :: 119 :: 121 :: 122 :: 123 :: 126 :: 127 :: 128 :: 130 :: 131 :: 133 :: 134 :: 135 :: 137 :: 138 :: 140 :: 141 :: 142 :: 144 :: 145 :: 147 :: 148 :: 149 :: 151 :: 152 :: 154 :: 155 :: 156 :: 158 :: 159 :: 161 :: 162 :: 163 :: 166 :: 167 :: []
theorem lawAs_eq (P : Params) : lawAs = (lawK P).map (·.1) := by kernel_rfl
/-- the law's record, as the view has it -/
noncomputable def lawRec : { d : DefRec × List (Str × PySem.Expr) // defOf Mine.hd.view_1_2 (Str.ofString "law") = some d } := ⟨_, by rfl⟩
end Mine
end
section
open PySem PySem.W PyProof.Rows PySem.Calls
set_option maxRecDepth 100000
namespace Mine
open PySem.Builtin
section facts
/-- a name of a type's that leads to a built-in: what the tables say of it, in one row -/
theorem slot_by {T id : String} {name : Str} (owner n : String) (found : fastLookup T name = some (some (.builtin id))) (kin : (fastBuiltinMro T).map (fun mro => mro.contains (.type owner)) = some true)
    (said : (splitId id, withoutEnding? id ("#opa" ++ "que"), withoutEnding? id "#data", plainId id) = (some (owner, n), none, none, true)) (kind : ((Manifest.find? owner).bind (·.attrs.lookup n)).any (fun k => match k with | .slot | .method => true | _ => false) = true) : Slot T name id := by
  obtain ⟨e1, e2, e3, e4⟩ : splitId id = some (owner, n) ∧ withoutEnding? id ("#opa" ++ "que") = none ∧ withoutEnding? id "#data" = none ∧ plainId id = true := by simpa only [Prod.mk.injEq] using said
  have sub : isSubtype (.type T) (.type owner) = pure true := by
    obtain ⟨mro, at_, has⟩ := Option.map_eq_some_iff.mp kin
    rw [isSubtype_type, at_]; exact congrArg pure has
  have look : typeLookup (.type T) name = pure (some (.builtin id)) := by rw [typeLookup_type, builtinLookup_eq_fast, found]
  refine Slot.of look e1 (by simpa only [String.reduceAppend] using e2) e3 ?_ sub e4
  generalize (Manifest.find? owner).bind (·.attrs.lookup n) = k at kind ⊢
  match k, kind with
  | some .slot, _ => exact .inl rfl
  | some .method, _ => exact .inr rfl
/-- a call that the manifest's row of the name allows -/
theorem args_by {id : String} {a : Args} (n o : String) {rows : List (String × Manifest.Signature)}
    (cut : ((id.toList.map fun c => if c.isAlphanum || c == '_' || c == '.' then c else '_').reverse.span (· != '.')) = (n.toList.reverse, '.' :: o.toList.reverse))
    (own : Manifest.owners.lookup (String.ofList o.toList.reverse.reverse) = some rows)
    (fit : (match rows.lookup (String.ofList n.toList.reverse.reverse) with | some sig => Bind.checkArgs id sig a | none => pure ()) = pure ()) : argsOk id a := by
  have e := signature?_of cut own
  show (match Manifest.signature? id with | some sig => Bind.checkArgs id sig a | none => pure ()) = pure ()
  rw [e, fit]
theorem slot_rfind : Slot "bytes" "rfind" "bytes.rfind" := slot_by "bytes" "rfind" (by kernel_rfl) (by kernel_rfl) (by decide +kernel) (by kernel_rfl)
theorem type_rfind : typeOf (.builtin "bytes.rfind") = pure (.type "method_descriptor") := by show builtinType _ = _; rw [builtinType_eq_fast]; kernel_rfl
theorem entry_rfind : entryFor table "bytes.rfind" = some Builtin.«bytes.rfind» := entryFor_of_tree (by kernel_rfl)
theorem args_rfind (a b : Value) : argsOk "bytes.rfind" ⟨[a, b], []⟩ := args_by "rfind" "bytes" (by kernel_rfl) FB.owner_bytes (by kernel_rfl)
theorem slot_rstrip : Slot "bytes" "rstrip" "bytes.rstrip" := slot_by "bytes" "rstrip" (by kernel_rfl) (by kernel_rfl) (by decide +kernel) (by kernel_rfl)
theorem type_rstrip : typeOf (.builtin "bytes.rstrip") = pure (.type "method_descriptor") := by show builtinType _ = _; rw [builtinType_eq_fast]; kernel_rfl
theorem entry_rstrip : entryFor table "bytes.rstrip" = some Builtin.«bytes.rstrip» := entryFor_of_tree (by kernel_rfl)
theorem args_rstrip (a b : Value) : argsOk "bytes.rstrip" ⟨[a, b], []⟩ := args_by "rstrip" "bytes" (by kernel_rfl) FB.owner_bytes (by kernel_rfl)
theorem slot_split : Slot "bytes" "split" "bytes.split" := slot_by "bytes" "split" (by kernel_rfl) (by kernel_rfl) (by decide +kernel) (by kernel_rfl)
theorem type_split : typeOf (.builtin "bytes.split") = pure (.type "method_descriptor") := by show builtinType _ = _; rw [builtinType_eq_fast]; kernel_rfl
theorem entry_split : entryFor table "bytes.split" = some Builtin.«bytes.split» := entryFor_of_tree (by kernel_rfl)
theorem args_split (a b : Value) : argsOk "bytes.split" ⟨[a, b], []⟩ := args_by "split" "bytes" (by kernel_rfl) FB.owner_bytes (by kernel_rfl)
theorem slot_join : Slot "bytes" "join" "bytes.join" := slot_by "bytes" "join" (by kernel_rfl) (by kernel_rfl) (by decide +kernel) (by kernel_rfl)
theorem type_join : typeOf (.builtin "bytes.join") = pure (.type "method_descriptor") := by show builtinType _ = _; rw [builtinType_eq_fast]; kernel_rfl
theorem entry_join : entryFor table "bytes.join" = some Builtin.«bytes.join» := entryFor_of_tree (by kernel_rfl)
theorem args_join (a b : Value) : argsOk "bytes.join" ⟨[a, b], []⟩ := args_by "join" "bytes" (by kernel_rfl) FB.owner_bytes (by kernel_rfl)
end facts

/-- how many octets sit between; raw value of startswith -/
noncomputable def startsRaw (b sub : Array UInt8) : Bool := if ((b.size : Int) - 0) < sub.size then false else b.extract 0 (0 + sub.size) == sub
noncomputable def endsRaw (b sub : Array UInt8) : Bool := if ((b.size : Int) - 0) < sub.size then false else b.extract (b.size - sub.size) b.size == sub

theorem wlo (n : Nat) : Bytes.window n none none = (0, (n : Int)) := by
  unfold Bytes.window
  simp
  have : ¬ ((n : Int) < 0) := by omega
  simp [this]
section
variable {b c : Array UInt8} {t u : Tok}
theorem gives_starts : Gives («bytes.startswith» ⟨[.bytes b t, .bytes c u], []⟩) (.val (.bool (startsRaw b c))) := by
  refine .of_wp fun M A E s Q hq => ?_
  have hq' : Q (.bool (startsRaw b c)) s := hq
  unfold «bytes.startswith» Bytes.tailMatchM
  refine wpAny_bind (wpAny_of_eq (a := (.bytes b t, [.bytes c u])) rfl ?_)
  refine wpAny_bind (wpAny_of_eq (a := none) rfl ?_)
  refine wpAny_bind (wpAny_of_eq (a := none) rfl ?_)
  refine wpAny_bind (wpAny_of_eq (a := b) rfl ?_)
  rw [wlo]
  refine wpAny_bind (wpAny_isInstance (typeIs_bytes s c u) PySem.F.sub_bytes_tuple ?_)
  rw [if_neg Bool.false_ne_true]
  refine wpAny_bind (wpAny_of_eq KBy.buffer_eq ?_)
  exact wpAny_pure ⟨_, rfl, hq'⟩
theorem gives_ends : Gives («bytes.endswith» ⟨[.bytes b t, .bytes c u], []⟩) (.val (.bool (endsRaw b c))) := by
  refine .of_wp fun M A E s Q hq => ?_
  have hq' : Q (.bool (endsRaw b c)) s := hq
  unfold «bytes.endswith» Bytes.tailMatchM
  refine wpAny_bind (wpAny_of_eq (a := (.bytes b t, [.bytes c u])) rfl ?_)
  refine wpAny_bind (wpAny_of_eq (a := none) rfl ?_)
  refine wpAny_bind (wpAny_of_eq (a := none) rfl ?_)
  refine wpAny_bind (wpAny_of_eq (a := b) rfl ?_)
  rw [wlo]
  refine wpAny_bind (wpAny_isInstance (typeIs_bytes s c u) PySem.F.sub_bytes_tuple ?_)
  rw [if_neg Bool.false_ne_true]
  refine wpAny_bind (wpAny_of_eq KBy.buffer_eq ?_)
  exact wpAny_pure ⟨_, rfl, hq'⟩
/-- where the last one is, -1: nowhere -/
noncomputable def rfindRaw (b c : Array UInt8) : Int := match (if ((b.size : Int) - 0) < c.size then none else some ((0 : Int).toNat, (b.size : Int).toNat)).bind fun (p : Nat × Nat) => Bytes.rfind? b c p.1 p.2 with
  | some i => (i : Int)
  | none => -1
theorem gives_rfind : Gives («bytes.rfind» ⟨[.bytes b t, .bytes c u], []⟩) (.int (rfindRaw b c)) := by
  refine .of_wp fun M A E s Q hq => ?_
  have hq' : Q (.int (rfindRaw b c) s.toks) { s with toks := s.toks + 1 } := hq
  unfold «bytes.rfind» Bytes.searchM Bytes.searchArgs
  refine wpAny_bind ?_
  refine wpAny_bind (wpAny_of_eq (a := (.bytes b t, [.bytes c u])) rfl ?_)
  refine wpAny_bind (wpAny_of_eq (a := none) rfl ?_)
  refine wpAny_bind (wpAny_of_eq (a := none) rfl ?_)
  refine wpAny_bind (wpAny_of_eq KBy.buffer_eq ?_)
  refine wpAny_bind (wpAny_pure ?_)
  refine wpAny_bind (wpAny_of_eq (a := b) rfl ?_)
  rw [wlo]
  refine wpAny_pure ?_
  dsimp only
  unfold rfindRaw at hq'
  simp only [if_true]
  revert hq'
  cases ((if ((b.size : Int) - 0) < c.size then none else some ((0 : Int).toNat, (b.size : Int).toNat)).bind fun (p : Nat × Nat) => Bytes.rfind? b c p.1 p.2) with
  | none => intro hq'; exact wpAny_bind (wpAny_rule (wpAny_bind (wpAny_mkInt (wpAny_pure ⟨_, rfl, hq'⟩))))
  | some i => intro hq'; exact wpAny_bind (wpAny_mkInt (wpAny_pure ⟨_, rfl, hq'⟩))
/-- the right end struck -/
noncomputable def rstripRaw (b c : Array UInt8) : List UInt8 := (b.toList.reverse.dropWhile c.contains).reverse
theorem meets_rstrip : Meets («bytes.rstrip» ⟨[.bytes b t, .bytes c u], []⟩) (fun _ R s => b.size ≤ sizeLine ∧ ∀ t' k, R (.ok (.ret (.bytes (rstripRaw b c).toArray t'))) { s with toks := k }) := by
  refine .of_wp fun prog w A R s hS => ?_
  obtain ⟨hsz, h⟩ := hS
  unfold «bytes.rstrip» Bytes.stripM
  refine wpAny_bind (wpAny_of_eq (a := (.bytes b t, [.bytes c u])) rfl ?_)
  refine wpAny_bind ?_
  unfold Bytes.bytesLike
  refine wpAny_bind ?_
  refine wpAny_of_eq KBy.buffer_eq ?_
  refine wpAny_pure ?_
  refine wpAny_bind (wpAny_pure ?_)
  refine wpAny_bind (wpAny_of_eq (a := b) rfl ?_)
  simp only [if_true, if_neg Bool.false_ne_true]
  by_cases hk : ((b.toList.reverse.dropWhile c.contains).reverse.length == b.size) = true
  · rw [if_pos hk]
    refine wpAny_bind (wpAny_rule (wpAny_bind ?_))
    unfold Bytes.Kind.same
    refine wpAny_bind (wpAny_typeOf (typeIs_bytes s b t) ?_)
    refine wpAny_pure (wpAny_pure ⟨_, rfl, ?_⟩)
    have e : (rstripRaw b c).toArray = b := by
      have h1 : (b.toList.reverse.dropWhile c.contains).length = b.toList.reverse.length := by
        have := beq_iff_eq.mp hk
        simpa using this
      have h2 : b.toList.reverse.dropWhile c.contains = b.toList.reverse := (List.dropWhile_suffix _).eq_of_length h1
      unfold rstripRaw
      rw [h2]; simp
    have := h t s.toks
    rw [e] at this
    exact this
  · rw [if_neg hk]
    refine wpAny_bind ?_
    unfold Bytes.Kind.new
    refine wpAny_mkBytes (wpAny_pure ⟨_, rfl, h s.toks (s.toks + 1)⟩) ?_
    have : (b.toList.reverse.dropWhile c.contains).length ≤ b.toList.reverse.length := (List.dropWhile_suffix _).length_le
    simp only [List.size_toArray, List.length_reverse] at this ⊢
    exact Nat.le_trans this (by simpa using hsz)
end
section
variable {prog : Program} {w : World} {A : Around} {E : Value → Shared → Prop} {s : Shared} {b c : Array UInt8} {t u : Tok} {Q : Value → Shared → Prop}
theorem call_starts (h : Q (.bool (startsRaw b c)) s) : wpAny (model prog w) A (call (.builtin "bytes.startswith") [.bytes b t, .bytes c u]) Q E s :=
  call_meets FB.slot_bytes_startswith (typeIs_bytes _ _ _) FB.entry_bytes_startswith (FB.args_bytes_startswith_2 _ _) gives_starts.meets h
theorem call_ends (h : Q (.bool (endsRaw b c)) s) : wpAny (model prog w) A (call (.builtin "bytes.endswith") [.bytes b t, .bytes c u]) Q E s :=
  call_meets FB.slot_bytes_endswith (typeIs_bytes _ _ _) FB.entry_bytes_endswith (FB.args_bytes_endswith_2 _ _) gives_ends.meets h
theorem call_rfind (h : Q (.int (rfindRaw b c) s.toks) { s with toks := s.toks + 1 }) : wpAny (model prog w) A (call (.builtin "bytes.rfind") [.bytes b t, .bytes c u]) Q E s :=
  call_meets slot_rfind (typeIs_bytes _ _ _) entry_rfind (args_rfind _ _) gives_rfind.meets h
theorem call_rstrip (hz : b.size ≤ 16777216) (h : ∀ t' k, Q (.bytes (rstripRaw b c).toArray t') { s with toks := k }) : wpAny (model prog w) A (call (.builtin "bytes.rstrip") [.bytes b t, .bytes c u]) Q E s :=
  call_meets slot_rstrip (typeIs_bytes _ _ _) entry_rstrip (args_rstrip _ _) meets_rstrip ⟨by rw [sizeLine_eq]; exact hz, h⟩
theorem meth {M : Model} {pl : Sem Bool} {Q : Value × List Value → Shared → Prop} {name : PySem.Str} {id : String} (slot : Slot "bytes" name id) (ty : typeOf (.builtin id) = pure (.type "method_descriptor"))
    (h : Q (.builtin id, [.bytes b t]) s) : wpAny M A (getMethod (.bytes b t) name pl) Q E s :=
  KBd.method_of (.bytes b t) (typeIs_bytes _ _ _) slot ty KBd.noRef h
end
end Mine
end
section
open PySem PySem.W PyProof.Rows PySem.Calls
set_option maxRecDepth 100000
namespace Mine
open PySem.Builtin
theorem nested_str (dep : Int) (tk : Tok) : Builtin.«issubclass.nested» ⟨[.type "bytes", .type "str", .int dep tk], []⟩ = ret (.bool false) := by kernel_rfl
theorem nested_bytes (dep : Int) (tk : Tok) : Builtin.«issubclass.nested» ⟨[.type "bytes", .type "bytes", .int dep tk], []⟩ = ret (.bool true) := by kernel_rfl
theorem kind_nested : builtinKind "issubclass.nested" = none := by decide +kernel
theorem plain_nested : plainId "issubclass.nested" = true := by decide +kernel
theorem args_nested (a b c : Value) : argsOk "issubclass.nested" ⟨[a, b, c], []⟩ := by unfold argsOk; kernel_rfl
section
variable {prog : Program} {w : World} {A : Around} {E : Value → Shared → Prop} {s : Shared} {b c : Array UInt8} {t u : Tok} {Q : Value → Shared → Prop}
theorem type_bytes (h : Q (.type "bytes") s) : wpAny (model prog w) A (call (.type "type") [.bytes b t]) Q E s := call_type_of (typeIs_bytes s b t) (by decide +kernel) h
theorem gives_nested_str (dep : Int) (tk : Tok) : Gives (Builtin.«issubclass.nested» ⟨[.type "bytes", .type "str", .int dep tk], []⟩) (.val (.bool false)) := by rw [nested_str]; exact Gives.tree (.val (.bool false))
theorem gives_nested_bytes (dep : Int) (tk : Tok) : Gives (Builtin.«issubclass.nested» ⟨[.type "bytes", .type "bytes", .int dep tk], []⟩) (.val (.bool true)) := by rw [nested_bytes]; exact Gives.tree (.val (.bool true))
theorem truthy_b {x : Bool} {M : Model} {Q : Bool → Shared → Prop} (h : Q x s) : wpAny M A (truthy (.bool x)) Q E s := wpAny_of_eq (a := x) (by cases x <;> rfl) h
theorem meets_issub {a : Addr} {n : Nat} : Meets (Builtin.«issubclass» ⟨[.type "bytes", .ref a], []⟩)
    (fun _ R s => s.heap.get? a = some { cls := .type "tuple", data := .seq #[.type "str", .type "bytes"] n } ∧ R (.ok (.ret (.bool true))) s) := by
  intro prog w A R s ⟨ho, hR⟩
  refine issubclass_outer ?_
  have hT : s.TypeIs (.ref a) "tuple" := ⟨_, ho, rfl⟩
  unfold Builtin.«issubclass.nested»
  refine wpAny_bind (wpAny_typeOf hT ?_)
  rw [if_neg (by decide)]
  refine wpAny_bind ?_
  unfold Builtins.unionMembers
  refine wpAny_bind (wpAny_typeOf hT ?_)
  rw [if_neg (by decide)]
  refine wpAny_pure ?_
  refine wpAny_bind (wpAny_isInstance hT PySem.W.KPt.sub_tt ?_)
  rw [if_pos rfl]
  rw [if_neg (by decide)]
  refine wpAny_bind ?_
  unfold seqItems?
  dsimp only
  refine wpAny_bind (wpAny_load ho ?_)
  refine wpAny_pure ?_
  refine wpAny_bind ?_
  show wpAny _ _ (forIn #[Value.type "str", Value.type "bytes"] _ _) _ _ _
  rw [← Array.forIn_toList]
  show wpAny _ _ (forIn [Value.type "str", Value.type "bytes"] _ _) _ _ _
  rw [List.forIn_cons]
  refine wpAny_bind ?_
  refine wpAny_bind (call_function_meets kind_nested plain_nested F.entry_issubclass_nested (args_nested _ _ _) (gives_nested_str _ _).meets ?_)
  refine wpAny_bind (truthy_b ?_)
  refine wpAny_pure ?_
  dsimp only
  rw [List.forIn_cons]
  refine wpAny_bind ?_
  refine wpAny_bind (call_function_meets kind_nested plain_nested F.entry_issubclass_nested (args_nested _ _ _) (gives_nested_bytes _ _).meets ?_)
  refine wpAny_bind (truthy_b ?_)
  refine wpAny_bind (wpAny_pure (wpAny_pure ?_))
  refine wpAny_pure ?_
  exact wpAny_pure hR
theorem issub_bytes {a : Addr} {n : Nat} (ho : s.heap.get? a = some { cls := .type "tuple", data := .seq #[.type "str", .type "bytes"] n }) (h : Q (.bool true) s) :
    wpAny (model prog w) A (call (.builtin "issubclass") [.type "bytes", .ref a]) Q E s := call_issubclass meets_issub ⟨ho, h⟩
theorem issub_N {h₀ : Heap} {L : Addr} {news : List (Addr × Obj)} {a : Addr} {n : Nat} (N : News h₀ L s.heap news) (hm : (a, ({ cls := .type "tuple", data := .seq #[.type "str", .type "bytes"] n } : Obj)) ∈ news) (h : Q (.bool true) s) :
    wpAny (model prog w) A (call (.builtin "issubclass") [.type "bytes", .ref a]) Q E s := issub_bytes (N _ hm).1 h
end
end Mine
end
section
open PySem PySem.W PyProof.Rows PySem.Calls
set_option maxRecDepth 100000
namespace Mine
section
variable {prog : Program} {w : World} {A : Around} {E : PySem.Value → Shared → Prop} {s : Shared} {value slice : PySem.Expr} {b : Array UInt8} {t : Tok} {h₀ : Heap} {L : Addr} {m : PySem.Str → Option PySem.Value} {news : List (Addr × Obj)} {l u : PySem.Value} {lo hi : Option Int} {Q : PySem.Value → Shared → Prop}
theorem slice_B (hF : Fr h₀ L s.heap m) (hN : News h₀ L s.heap news) (hl : IsPart l lo) (hu : IsPart u hi) (hz : b.size ≤ 16777216)
    (h : ∀ h' t' k, Fr h₀ L h' m → News h₀ L h' news → (KBy.picked b lo hi).size ≤ b.size → Q (.bytes (KBy.picked b lo hi) t') { s with heap := h', toks := k })
    (hs : subscripted slice false (.bytes b t) (.ref s.heap.objs.size) = operate [.ref s.heap.objs.size, .bytes b t] (getItem (.bytes b t) (.ref s.heap.objs.size)) := by with_unfolding_all rfl)
    (ht : ∀ r, letTemporaryGo value (.bytes b t) r = pure () := by intro _; with_unfolding_all rfl) :
    wpAny (model prog w) A (subscriptTail value slice (.bytes b t) (.ref s.heap.objs.size)) Q E { s with heap := s.heap.push { cls := .type "slice", data := .fields #[l, u, .none] } } :=
  KBc.slice_K hF hN rfl hl hu (by rw [KBw.ints_length]; exact hz) (fun h' t' k F N _ => h h' t' k F N (KBc.size_picked_le b lo hi)) hs ht
theorem noI_bytes : typeLookup (.type "bytes") (dunderI "add") = pure none := by rw [typeLookup_type, builtinLookup_eq_fast]; kernel_rfl
theorem iadd_bytes {c : Array UInt8} {u : Tok} (hsz : b.size + c.size ≤ 16777216) (h : ∀ t' k, Q (.bytes (b ++ c) t') { s with toks := k }) : wpAny (model prog w) A (inplaceOp .Add (.bytes b t) (.bytes c u)) Q E s := by
  refine iconcat_gives (typeIs_bytes s b t) (typeIs_bytes s c u) noI_bytes KBy.noFill_bytes_add KBy.seq_bytes_add FB.slot_bytes_add FB.entry_bytes_add (FB.args_bytes_add_2 _ _) (KBy.gives_bytes_add (KBy.tooLong_not hsz)) ?_
  split
  · next none_ =>
    obtain rfl : b = #[] := Array.isEmpty_iff.1 none_
    have q := h u s.toks
    rw [Array.empty_append] at q; exact q
  · split
    · next none_ =>
      obtain rfl : c = #[] := Array.isEmpty_iff.1 none_
      have q := h t s.toks
      rw [Array.append_empty] at q; exact q
    · exact And.intro (by simpa [sizeLine_eq] using hsz) (h _ _)
/-- so many of one octet -/
theorem mul_one {c : UInt8} {n : Int} {u : Tok} (hlo : 0 ≤ n) (hn : n ≤ 1048576) (h : ∀ t' k, Q (.bytes (List.replicate n.toNat c).toArray t') { s with toks := k }) :
    wpAny (model prog w) A (binaryOp .Mult (.bytes #[c] t) (.int n u)) Q E s := by
  refine bytes_mul_any (b := [c]) (by simp) (by omega) hn (by simp) fun t' k => ?_
  have : (List.replicate n.toNat [c]).flatten = List.replicate n.toNat c := by
    generalize n.toNat = j
    induction j with
    | zero => rfl
    | succ j ih => rw [List.replicate_succ, List.flatten_cons, ih]; rfl
  rw [this]
  exact h t' k
end
section
variable {M : Model} {A : Around} {E : PySem.Value → Shared → Prop} {s : Shared} {env : Env}
/-- a try whose body does not raise -/
theorem Try_calm {body : List Stmt} {hs : List ExceptHandler} {pos : Pos} {Q : Flow → Shared → Prop} (h : wpAny M A (execs body env) Q (fun _ _ => False) s) : wpAny M A (exec (.Try body hs [] [] pos) env) Q E s := by
  show wpAny M A (do standAt pos; tryStmt false (execs body env) hs (execs [] env) [] env) Q E s
  refine wpAny_bind (wpAny_standAt ?_)
  unfold tryStmt
  refine wpAny_bind (wpAny_attempt (wpAny_mono h (fun f s' hf => ?_) fun _ _ x => x.elim))
  cases f with
  | next => exact wpAny_pure hf
  | brk => exact wpAny_pure hf
  | cont => exact wpAny_pure hf
  | ret v => exact wpAny_pure hf
end
end Mine
end
section
open PySem PySem.W PyProof.Rows PySem.Calls
set_option maxRecDepth 100000
namespace Mine
open PySem.Builtin
/-- values that are these octets -/
inductive BytesAre : List Value → List (Array UInt8) → Prop where
  | nil : BytesAre [] []
  | cons {b : Array UInt8} {t : Tok} {vs : List Value} {bs : List (Array UInt8)} : BytesAre vs bs → BytesAre (.bytes b t :: vs) (b :: bs)
theorem BytesAre.length : ∀ {vs : List Value} {bs : List (Array UInt8)}, BytesAre vs bs → vs.length = bs.length
  | _, _, .nil => rfl
  | _, _, .cons h => by rw [List.length_cons, List.length_cons, h.length]
theorem BytesAre.get : ∀ {vs : List Value} {bs : List (Array UInt8)}, BytesAre vs bs → ∀ {i : Nat} {b : Array UInt8}, bs[i]? = some b → ∃ t, vs[i]? = some (.bytes b t)
  | _, _, .nil, i, b, h => by simp at h
  | _, _, .cons (t := t) h, 0, b, e => by simp at e; exact ⟨t, by simp [e]⟩
  | _, _, .cons h, i + 1, b, e => by simpa using h.get (by simpa using e)
theorem BytesAre.snoc {b : Array UInt8} {t : Tok} : ∀ {vs : List Value} {bs : List (Array UInt8)}, BytesAre vs bs → BytesAre (vs ++ [.bytes b t]) (bs ++ [b])
  | _, _, .nil => .cons .nil
  | _, _, .cons h => .cons h.snoc
theorem BytesAre.take : ∀ {vs : List Value} {bs : List (Array UInt8)}, BytesAre vs bs → ∀ n, BytesAre (vs.take n) (bs.take n)
  | _, _, .nil, n => by simp; exact .nil
  | _, _, .cons h, 0 => .nil
  | _, _, .cons h, n + 1 => .cons (h.take n)
theorem BytesAre.drop : ∀ {vs : List Value} {bs : List (Array UInt8)}, BytesAre vs bs → ∀ n, BytesAre (vs.drop n) (bs.drop n)
  | _, _, .nil, n => by simp; exact .nil
  | _, _, .cons h, 0 => .cons h
  | _, _, .cons h, n + 1 => h.drop n
theorem BytesAre.app : ∀ {vs : List Value} {bs : List (Array UInt8)} {ws : List Value} {cs : List (Array UInt8)}, BytesAre vs bs → BytesAre ws cs → BytesAre (vs ++ ws) (bs ++ cs)
  | _, _, _, _, .nil, k => k
  | _, _, _, _, .cons h, k => .cons (h.app k)
theorem BytesAre.rev : ∀ {vs : List Value} {bs : List (Array UInt8)}, BytesAre vs bs → BytesAre vs.reverse bs.reverse
  | _, _, .nil => .nil
  | _, _, .cons h => by rw [List.reverse_cons, List.reverse_cons]; exact h.rev.snoc
section
variable {M : Model} {A : Around} {E : Value → Shared → Prop}
theorem mapM_new {Q : List Value → Shared → Prop} : ∀ (bs : List (Array UInt8)) (s : Shared), (∀ b ∈ bs, b.size ≤ sizeLine) → (∀ vs k, BytesAre vs bs → Q vs { s with toks := k }) → wpAny M A (bs.mapM Bytes.Kind.bytes.new) Q E s := by
  intro bs
  induction bs generalizing Q with
  | nil => intro s _ h; exact wpAny_pure (h [] s.toks .nil)
  | cons b r ih =>
    intro s hz h
    rw [List.mapM_cons]
    refine wpAny_bind ?_
    refine wpAny_mkBytes ?_ (hz b List.mem_cons_self)
    refine wpAny_bind (ih _ (fun c hc => hz c (List.mem_cons_of_mem _ hc)) fun vs k hv => wpAny_pure ?_)
    exact h _ _ (.cons hv)
end
/-- the pieces between the separators -/
noncomputable def placesRaw (b c : Array UInt8) : List Nat := (Bytes.occurrences b c 0 b.size).take (b.size + 1)
noncomputable def splitRaw (b c : Array UInt8) : List (Array UInt8) := if (placesRaw b c).isEmpty = true then [b] else Bytes.between b c.size (placesRaw b c)
section
variable {b c : Array UInt8} {t u : Tok}
theorem meets_split (hc : c.isEmpty = false) : Meets («bytes.split» ⟨[.bytes b t, .bytes c u], []⟩) (fun A R s => b.size ≤ sizeLine ∧ (∀ x ∈ splitRaw b c, x.size ≤ sizeLine) ∧ ∀ prog w, ∀ vs k, BytesAre vs (splitRaw b c) → wpAny (model prog w) A.in1 (newList vs) (fun v s' => R (.ok (.ret v)) s') (fun e s' => R (.error e) s') { s with toks := k }) := by
  refine .of_wp fun prog w A R s hS => ?_
  obtain ⟨hsz, hss, h⟩ := hS
  have h := h prog w
  unfold «bytes.split» Bytes.splitM
  have hb : Bytes.bindOptional (toString Bytes.Kind.bytes.name ++ toString "." ++ toString "split") "split" ["sep", "maxsplit"] [.bytes c u] [] = pure [some (.bytes c u), none] := by kernel_rfl
  dsimp only
  refine wpAny_bind (wpAny_of_eq hb ?_)
  dsimp only
  refine wpAny_bind (wpAny_pure ?_)
  refine wpAny_bind (wpAny_of_eq (a := b) rfl ?_)
  unfold Bytes.bytesLike
  refine wpAny_bind ?_
  refine wpAny_bind (wpAny_of_eq KBy.buffer_eq ?_)
  refine wpAny_pure ?_
  rw [if_neg (ne_true_of_eq_false hc)]
  have e1 : (if (-1 : Int) < 0 then b.size + 1 else (-1 : Int).toNat) = b.size + 1 := rfl
  simp only [e1, if_neg Bool.false_ne_true]
  unfold splitRaw placesRaw at hss h
  by_cases hp : ((Bytes.occurrences b c 0 b.size).take (b.size + 1)).isEmpty = true
  · rw [if_pos hp] at hss h ⊢
    refine wpAny_bind (wpAny_rule ?_)
    refine wpAny_bind ?_
    unfold Bytes.Kind.same
    refine wpAny_bind (wpAny_typeOf (typeIs_bytes s b t) ?_)
    rw [if_pos (by decide)]
    refine wpAny_pure ?_
    refine wpAny_bind ?_
    exact wpAny_mono (h [.bytes b t] s.toks (.cons .nil)) (fun v s' hv => wpAny_pure ⟨_, rfl, hv⟩) fun _ _ x => x
  · rw [if_neg hp] at hss h ⊢
    refine wpAny_bind ?_
    refine mapM_new _ _ hss fun vs k hv => ?_
    refine wpAny_bind ?_
    exact wpAny_mono (h vs k hv) (fun v s' hv => wpAny_pure ⟨_, rfl, hv⟩) fun _ _ x => x
end
section
variable {prog : Program} {w : World} {A : Around} {E : Value → Shared → Prop} {s : Shared} {b c : Array UInt8} {t u : Tok} {Q : Value → Shared → Prop} {h₀ : Heap} {L : Addr} {m : Str → Option Value} {news : List (Addr × Obj)}
theorem call_split (F : Fr h₀ L s.heap m) (N : News h₀ L s.heap news) (hc : c.isEmpty = false) (hz : b.size ≤ 16777216) (hss : ∀ x ∈ splitRaw b c, x.size ≤ 16777216) (hn : (splitRaw b c).length ≤ 16777216)
    (h : ∀ l h' vs k, BytesAre vs (splitRaw b c) → Fr h₀ L h' m → News h₀ L h' ((l, listOf vs.toArray 0) :: news) → (∀ p ∈ news, p.1 < l) → Q (.ref l) { s with heap := h', toks := k }) :
    wpAny (model prog w) A (call (.builtin "bytes.split") [.bytes b t, .bytes c u]) Q E s :=
  call_meets slot_split (typeIs_bytes _ _ _) entry_split (args_split _ _) (meets_split hc) ⟨by rw [sizeLine_eq]; exact hz, fun x hx => by rw [sizeLine_eq]; exact hss x hx, fun prog w vs k hv =>
    newList_K (s := { s with toks := k }) F N (fun l h' F' N' lt => h l h' vs k hv F' N' lt) (by rw [sizeLine_eq, hv.length]; exact hn)⟩
end
end Mine
end
section
open PySem PySem.W PyProof.Rows PySem.Calls
set_option maxRecDepth 100000
namespace Mine
open PySem.Builtin
section
variable {M : Model} {A : Around} {E : Value → Shared → Prop}
theorem forIn_list_inv {α β : Type} (f : α → β → Sem (ForInStep β)) {Q : β → Shared → Prop} : ∀ (l : List α) (I : Nat → β → Shared → Prop) (b : β) (s : Shared),
    (∀ i a b s, l[i]? = some a → I i b s → wpAny M A (f a b) (fun r s' => ∃ b', r = .yield b' ∧ I (i + 1) b' s') E s) → I 0 b s → (∀ b s, I l.length b s → Q b s) → wpAny M A (forIn l b f) Q E s
  | [], I, b, s, _, h0, fin => by rw [List.forIn_nil]; exact wpAny_pure (fin b s h0)
  | a :: l, I, b, s, step, h0, fin => by
    rw [List.forIn_cons]
    refine wpAny_bind (wpAny_mono (step 0 a b s rfl h0) (fun r s' hr => ?_) fun _ _ x => x)
    obtain ⟨b', rfl, hI⟩ := hr
    exact forIn_list_inv f l (fun i => I (i + 1)) b' s' (fun i a b s hi => step (i + 1) a b s (by simpa using hi)) hI (fun b s h => fin b s (by simpa using h))
theorem forIn_range_inv {β : Type} (f : Nat → β → Sem (ForInStep β)) {Q : β → Shared → Prop} {n : Nat} (I : Nat → β → Shared → Prop) {b : β} {s : Shared}
    (step : ∀ i b s, i < n → I i b s → wpAny M A (f i b) (fun r s' => ∃ b', r = .yield b' ∧ I (i + 1) b' s') E s) (h0 : I 0 b s) (fin : ∀ b s, I n b s → Q b s) : wpAny M A (forIn [:n] b f) Q E s := by
  rw [Std.Legacy.Range.forIn_eq_forIn_range']
  refine forIn_list_inv f _ I b s (fun i a b s hi hI => ?_) h0 (fun b s h => fin b s (by simpa [Std.Legacy.Range.size] using h))
  have hlt : i < n := by
    have := (List.getElem?_eq_some_iff.mp hi).1
    simpa [Std.Legacy.Range.size] using this
  have : a = i := by
    have h := List.getElem?_eq_some_iff.mp hi
    obtain ⟨h1, h2⟩ := h
    simp at h2
    exact h2.symm
  subst this
  exact step _ b s hlt hI
theorem joinLetGo_none {Q : Unit → Shared → Prop} : ∀ (vs : List Value) (keep : List Value) (s : Shared), Q () s → wpAny M A (Bytes.joinLetGo (vs.map fun v => (v, none)) keep) Q E s
  | [], _, s, h => wpAny_pure h
  | v :: vs, keep, s, h => by
    show wpAny M A (letGo [v] _ >>= fun _ => Bytes.joinLetGo (vs.map fun v => (v, none)) keep) Q E s
    exact wpAny_bind (wpAny_letGo (joinLetGo_none vs keep s h))
end
section
variable {b c : Array UInt8} {t u : Tok}
theorem take_quiet {id : String} : Bytes.takeBufferQuiet? id (.bytes b t) 0 = pure (some (b, none)) := by
  have h : Bytes.takeBuffer? id (.bytes b t) 0 = pure (some (b, none)) := by
    unfold Bytes.takeBuffer?
    rw [KBy.special_eq KBy.look_buffer, KBy.own_buffer]
    simp only [pure_bind]
    show (do let r ← Bytes.buffer? id (.bytes b t); pure _) = _
    rw [KBy.buffer_eq]
    rfl
  unfold Bytes.takeBufferQuiet?
  rw [h]
  rfl
theorem joined_one (sep x : Array UInt8) : Bytes.joined sep [x] = x := by simp [Bytes.joined]
theorem getD_bytes {vs : List Value} {bs : List (Array UInt8)} (hv : BytesAre vs bs) {i : Nat} (hi : i < vs.length) : ∃ x tk, bs[i]? = some x ∧ vs.toArray.getD i Value.none = .bytes x tk ∧ vs[i]? = some (.bytes x tk) := by
  have hb : i < bs.length := by rw [← hv.length]; exact hi
  obtain ⟨tk, e⟩ := hv.get (List.getElem?_eq_getElem hb)
  refine ⟨bs[i], tk, List.getElem?_eq_getElem hb, ?_, e⟩
  rw [Array.getD_eq_getD_getElem?]
  simp [e]
theorem meets_join {a : Addr} {vs : List Value} {n : Nat} {bs : List (Array UInt8)} (hv : BytesAre vs bs) :
    Meets («bytes.join» ⟨[.bytes b t, .ref a], []⟩) (fun _ R s => s.heap.get? a = some (listOf vs.toArray n) ∧ Bytes.tooLong (bs.foldl (· + ·.size) (b.size * (bs.length - 1))) = false ∧ (Bytes.joined b bs).size ≤ sizeLine ∧ ∀ t' k, R (.ok (.ret (.bytes (Bytes.joined b bs) t'))) { s with toks := k }) := by
  refine .of_wp fun prog w A R s hS => ?_
  obtain ⟨ho, hlong, hsz, h⟩ := hS
  have hT : s.TypeIs (.ref a) "list" := ⟨_, ho, rfl⟩
  unfold «bytes.join» Bytes.joinM
  refine wpAny_bind (wpAny_of_eq (a := (.bytes b t, .ref a)) rfl ?_)
  dsimp only
  rw [if_pos (by decide)]
  refine wpAny_bind ?_
  unfold Bytes.joinItems
  refine wpAny_bind (wpAny_typeOf hT ?_)
  rw [if_pos (by decide)]
  refine wpAny_pure ?_
  refine wpAny_bind ?_
  unfold seqItems?
  dsimp only
  refine wpAny_bind (wpAny_load ho ?_)
  refine wpAny_pure ?_
  dsimp only
  rw [if_pos (by decide)]
  have loop : ∀ (f : Nat → Array (Array UInt8) × List (Value × Option Value) → Sem (ForInStep (Array (Array UInt8) × List (Value × Option Value)))) (rest : Array (Array UInt8) × List (Value × Option Value) → Sem PySem.Fin),
      (∀ i x tk, i < vs.length → vs[i]? = some (.bytes x tk) → wpAny (model prog w) A.in1 (f i ((bs.take i).toArray, (vs.take i).map fun v => (v, none))) (fun r s' => r = .yield ((bs.take i).toArray.push x, ((vs.take i).map fun v => (v, none)) ++ [(.bytes x tk, none)]) ∧ s' = s) (fun e s' => R (.error e) s') s) →
      wpAny (model prog w) A.in1 (rest (bs.toArray, vs.map fun v => (v, none))) (fun fin s' => ∃ v, fin = PySem.Fin.done (.ret v) ∧ R (.ok (.ret v)) s') (fun e s' => R (.error e) s') s →
      wpAny (model prog w) A.in1 (forIn [:vs.toArray.size] ((#[] : Array (Array UInt8)), ([] : List (Value × Option Value))) f >>= rest) (fun fin s' => ∃ v, fin = PySem.Fin.done (.ret v) ∧ R (.ok (.ret v)) s') (fun e s' => R (.error e) s') s := by
    intro f rest step fin
    refine wpAny_bind (forIn_range_inv f (fun i st s' => st = ((bs.take i).toArray, (vs.take i).map fun v => (v, none)) ∧ s' = s) ?_ ⟨rfl, rfl⟩ ?_)
    · rintro i st s' hi ⟨rfl, rfl⟩
      obtain ⟨x, tk, e1, _, e3⟩ := getD_bytes hv (i := i) (by simpa using hi)
      refine wpAny_mono (step i x tk (by simpa using hi) e3) (fun r s'' hr => ?_) fun _ _ x => x
      obtain ⟨rfl, rfl⟩ := hr
      refine ⟨_, rfl, ?_, rfl⟩
      rw [List.take_add_one, e1, List.take_add_one, e3]
      simp
    · rintro st s' ⟨rfl, rfl⟩
      have e1 : bs.take vs.toArray.size = bs := List.take_of_length_le (by rw [List.size_toArray, hv.length]; exact Nat.le_refl _)
      have e2 : vs.take vs.toArray.size = vs := List.take_of_length_le (by simp)
      rw [e1, e2]
      exact fin
  have fin : ∀ (e : Bytes.joined b bs = Bytes.joined b bs.toArray.toList), wpAny (model prog w) A.in1 (do
        let result ← Bytes.Kind.bytes.new (Bytes.joined b bs.toArray.toList)
        holding (result :: List.flatMap (fun x => x.fst :: x.snd.toList) (vs.map fun v => (v, (none : Option Value)))) point
        Bytes.joinLetGo (vs.map fun v => (v, none)) [result]
        ret result) (fun fin s' => ∃ v, fin = PySem.Fin.done (.ret v) ∧ R (.ok (.ret v)) s') (fun e s' => R (.error e) s') s := by
    intro e
    refine wpAny_bind (wpAny_mkBytes ?_ hsz)
    refine wpAny_bind (wpAny_holding (wpAny_point ?_))
    refine wpAny_bind (joinLetGo_none _ _ _ ?_)
    exact wpAny_pure ⟨_, rfl, h _ _⟩
  have hl2 : ¬ Bytes.tooLong (Array.foldl (fun x1 x2 => x1 + x2.size) (b.size * (bs.toArray.size - 1)) bs.toArray) = true := by
    have e : Array.foldl (fun x1 (x2 : Array UInt8) => x1 + x2.size) (b.size * (bs.toArray.size - 1)) bs.toArray = bs.foldl (· + ·.size) (b.size * (bs.length - 1)) := by simp
    rw [e]
    exact ne_true_of_eq_false hlong
  have hany : ∀ i, ¬ ((Bytes.Kind.bytes == Bytes.Kind.bytearray || ((vs.take i).map fun v => (v, (none : Option Value))).any fun x => x.fst.onHeap) = true) := by
    intro i
    have : ∀ {vs : List Value} {bs : List (Array UInt8)}, BytesAre vs bs → (vs.map fun v => (v, (none : Option Value))).any (fun x => x.fst.onHeap) = false := by
      intro vs bs hv
      induction hv with
      | nil => rfl
      | cons _ ih => rw [List.map_cons, List.any_cons, ih]; rfl
    rw [this (hv.take i)]
    decide
  cases hv with
  | nil =>
    refine loop _ _ ?_ ?_
    · intro i x tk hi e; simp at hi
    · refine wpAny_bind (wpAny_of_eq (a := b) rfl ?_)
      dsimp only
      rw [if_neg hl2]
      exact fin rfl
  | cons hv' =>
    cases hv' with
    | nil =>
      rename_i bb tt
      refine wpAny_bind (wpAny_typeOf (typeIs_bytes s bb tt) ?_)
      rw [if_pos (by decide)]
      refine wpAny_bind (wpAny_rule ?_)
      have := h tt s.toks
      rw [joined_one] at this
      exact wpAny_pure ⟨_, rfl, this⟩
    | cons hv' =>
      refine loop _ _ ?_ ?_
      · intro i x tk hi e
        refine wpAny_bind ?_
        refine wpAny_bind (wpAny_load ho ?_)
        refine wpAny_pure ?_
        dsimp only
        rw [if_neg (hany i)]
        have hget : ∀ {l : List Value}, l[i]? = some (.bytes x tk) → l.toArray.getD i Value.none = .bytes x tk := fun e => by rw [Array.getD_eq_getD_getElem?]; simp [e]
        rw [hget e]
        refine wpAny_bind (wpAny_holding (wpAny_of_eq take_quiet ?_))
        dsimp only
        refine wpAny_bind ?_
        refine wpAny_bind (wpAny_load ho ?_)
        refine wpAny_pure ?_
        dsimp only
        rw [if_neg (by simp)]
        exact wpAny_pure ⟨rfl, rfl⟩
      · refine wpAny_bind (wpAny_of_eq (a := b) rfl ?_)
        dsimp only
        rw [if_neg hl2]
        exact fin rfl
end
section
variable {prog : Program} {w : World} {A : Around} {E : Value → Shared → Prop} {s : Shared} {b : Array UInt8} {t : Tok} {Q : Value → Shared → Prop}
theorem call_join {a : Addr} {vs : List Value} {n : Nat} {bs : List (Array UInt8)} (hv : BytesAre vs bs) (ho : s.heap.get? a = some (listOf vs.toArray n)) (hl : bs.foldl (· + ·.size) (b.size * (bs.length - 1)) ≤ 16777216) (hz : (Bytes.joined b bs).size ≤ 16777216)
    (h : ∀ t' k, Q (.bytes (Bytes.joined b bs) t') { s with toks := k }) : wpAny (model prog w) A (call (.builtin "bytes.join") [.bytes b t, .ref a]) Q E s :=
  call_meets slot_join (typeIs_bytes _ _ _) entry_join (args_join _ _) (meets_join hv) ⟨ho, KBy.tooLong_not hl, by rw [sizeLine_eq]; exact hz, h⟩
end
end Mine
end
section
open PySem PySem.W PyProof.Rows PySem.Calls
set_option maxRecDepth 100000
namespace Mine
open PySem.Builtin
theorem between_facts (b : Array UInt8) (w : Nat) : ∀ (ps : List Nat) (parts : Array (Array UInt8)) (last : Nat), (∀ x ∈ parts.toList, x.size ≤ b.size) →
    (∀ x ∈ ((ps.foldl (fun (st : Array (Array UInt8) × Nat) p => (st.1.push (b.extract st.2 p), p + w)) (parts, last)).1.push (b.extract (ps.foldl (fun (st : Array (Array UInt8) × Nat) p => (st.1.push (b.extract st.2 p), p + w)) (parts, last)).2 b.size)).toList, x.size ≤ b.size) ∧
      ((ps.foldl (fun (st : Array (Array UInt8) × Nat) p => (st.1.push (b.extract st.2 p), p + w)) (parts, last)).1).size = parts.size + ps.length
  | [], parts, last, h => by
    refine ⟨fun x hx => ?_, by simp⟩
    simp only [List.foldl_nil, Array.toList_push, List.mem_append, List.mem_singleton] at hx
    rcases hx with hx | rfl
    · exact h x hx
    · simp only [Array.size_extract]; omega
  | p :: ps, parts, last, h => by
    have := between_facts b w ps (parts.push (b.extract last p)) (p + w) (fun x hx => by
      simp only [Array.toList_push, List.mem_append, List.mem_singleton] at hx
      rcases hx with hx | rfl
      · exact h x hx
      · simp only [Array.size_extract]; omega)
    refine ⟨this.1, ?_⟩
    have h2 := this.2
    rw [List.foldl_cons, List.length_cons]
    rw [Array.size_push] at h2
    refine Eq.trans h2 ?_
    omega
theorem split_size {b c x : Array UInt8} (h : x ∈ splitRaw b c) : x.size ≤ b.size := by
  unfold splitRaw at h
  split at h
  · rw [List.mem_singleton.mp h]; exact Nat.le_refl _
  · exact (between_facts b c.size (placesRaw b c) #[] 0 (by simp)).1 x h
theorem split_len {b c : Array UInt8} : (splitRaw b c).length ≤ b.size + 2 := by
  unfold splitRaw
  split
  · simp
  · have h2 := (between_facts b c.size (placesRaw b c) #[] 0 (by simp)).2
    have h3 : (placesRaw b c).length ≤ b.size + 1 := by unfold placesRaw; rw [List.length_take]; omega
    show ((_ : Array (Array UInt8)).push _).toList.length ≤ _
    rw [Array.length_toList, Array.size_push]
    refine Nat.le_trans (Nat.add_le_add_right (Nat.le_of_eq h2) 1) ?_
    simp only [List.size_toArray, List.length_nil, Nat.zero_add]
    omega
section
variable {prog : Program} {w : World} {A : Around} {E : Value → Shared → Prop} {s : Shared} {b c : Array UInt8} {t u : Tok} {Q : Value → Shared → Prop} {h₀ : Heap} {L : Addr} {m : Str → Option Value} {news : List (Addr × Obj)}
theorem call_split1 {o : UInt8} (F : Fr h₀ L s.heap m) (N : News h₀ L s.heap news) (hz : b.size ≤ 1000000)
    (h : ∀ l h' vs k, BytesAre vs (splitRaw b #[o]) → vs.length ≤ b.size + 2 → Fr h₀ L h' m → News h₀ L h' ((l, listOf vs.toArray 0) :: news) → (∀ p ∈ news, p.1 < l) → Q (.ref l) { s with heap := h', toks := k }) :
    wpAny (model prog w) A (call (.builtin "bytes.split") [.bytes b t, .bytes #[o] u]) Q E s :=
  call_split F N rfl (by omega) (fun x hx => by have := split_size hx; omega) (by have := @split_len b #[o]; omega) fun l h' vs k hv F' N' lt => h l h' vs k hv (by rw [hv.length]; exact split_len) F' N' lt
end
end Mine
end
section
open PySem PySem.W PyProof.Rows PySem.Calls
set_option maxRecDepth 100000
namespace Mine
section
variable {prog : Program} {w : World} {A : Around} {E : Value → Shared → Prop} {s : Shared} {Q : Value → Shared → Prop} {h₀ : Heap} {L : Addr} {m : Str → Option Value} {news : List (Addr × Obj)} {a : Addr} {vs : List Value} {n : Nat}
theorem isL (N : News h₀ L s.heap news) (hm : (a, listOf vs.toArray n) ∈ news) : s.heap.IsList a vs.toArray := ⟨_, (N _ hm).1, rfl, _, rfl⟩
theorem len_L (N : News h₀ L s.heap news) (hm : (a, listOf vs.toArray n) ∈ news) (hz : vs.length ≤ 1000000) (h : ∀ t k, Q (.int (vs.length : Int) t) { s with toks := k }) : wpAny (model prog w) A (call (.builtin "len") [.ref a]) Q E s :=
  len_list (isL N hm) (by simp only [List.size_toArray]; omega) (by simpa using h _ _)
theorem item_L {value slice : Expr} {k : Int} {u : Tok} {v : Value} (N : News h₀ L s.heap news) (hm : (a, listOf vs.toArray n) ∈ news) (h0 : 0 ≤ k) (hk : k < 2 ^ 63) (hx : vs[k.toNat]? = some v) (h : Q v s)
    (hs : subscripted slice false (.ref a) (.int k u) = operate [.ref a, .int k u] (getItem (.ref a) (.int k u)) := by with_unfolding_all rfl) :
    wpAny (model prog w) A (subscriptTail value slice (.ref a) (.int k u)) Q E s :=
  item_litK (isL N hm) h0 hk hx h hs
end
end Mine
end
section
open PySem PySem.W PyProof.Rows PySem.Calls
set_option maxRecDepth 100000
namespace Mine
open MeetsSeq MeetsSeq3
/-- the two orders that min and max ask: < and > -/
noncomputable def opOf (up : Bool) : CmpOp := if up then .Lt else .Gt
noncomputable def ansOf (up : Bool) (o : Ordering) : Bool := if up then o == .lt else o == .gt
/-- two rows of octets, in order -/
noncomputable def ordL : List (Array UInt8) → List (Array UInt8) → Ordering
  | x :: xs, y :: ys => if x.toList == y.toList then ordL xs ys else Builtin.Bytes.order x.toList y.toList
  | xs, ys => compare xs.length ys.length
theorem ordL_nil (ys : List (Array UInt8)) : ordL [] ys = compare 0 ys.length := by cases ys <;> rfl
theorem ordL_nil' (xs : List (Array UInt8)) : ordL xs [] = compare xs.length 0 := by cases xs <;> rfl
theorem eq_octets {prog : Program} {w : World} {A : Around} {E : Value → Shared → Prop} {s : Shared} {Q : Bool → Shared → Prop} {b c : Array UInt8} {t u : Tok} (h : Q (b.toList == c.toList) s) :
    wpAny (model prog w) A (eqBool (.bytes b t) (.bytes c u)) Q E s := by
  unfold eqBool
  refine wpAny_holding ?_
  split
  · next same =>
    obtain rfl : b = c := by injection eq_of_beq same
    rw [beq_self_eq_true] at h
    exact wpAny_bind (wpAny_rule (wpAny_pure h))
  · refine wpAny_bind (eq_bytes (wpAny_truthy_bool h))
section facts
theorem slot_octets (up : Bool) : Slot "bytes" (cmpInfo (opOf up)).2.1 (if up then "bytes.__lt__" else "bytes.__gt__") := by
  cases up
  · exact slot_by "bytes" "__gt__" (by kernel_rfl) (by kernel_rfl) (by decide +kernel) (by kernel_rfl)
  · exact slot_by "bytes" "__lt__" (by kernel_rfl) (by kernel_rfl) (by decide +kernel) (by kernel_rfl)
theorem args_octets (up : Bool) (a b : Value) : argsOk (if up then "bytes.__lt__" else "bytes.__gt__") ⟨[a, b], []⟩ := by
  cases up
  · exact args_by "__gt__" "bytes" (by kernel_rfl) FB.owner_bytes (by kernel_rfl)
  · exact args_by "__lt__" "bytes" (by kernel_rfl) FB.owner_bytes (by kernel_rfl)
theorem entry_octets (up : Bool) : entryFor table (if up then "bytes.__lt__" else "bytes.__gt__") = some (if up then Builtin.«bytes.__lt__» else Builtin.«bytes.__gt__») := by
  cases up <;> exact entryFor_of_tree (by kernel_rfl)
end facts
theorem gives_order (up : Bool) (b c : Array UInt8) (t u : Tok) :
    Gives ((if up then Builtin.«bytes.__lt__» else Builtin.«bytes.__gt__») ⟨[.bytes b t, .bytes c u], []⟩) (.val (.bool (ansOf up (Builtin.Bytes.order b.toList c.toList)))) := by
  have both : ∀ (s : Shared) (M : Model) (A : Around) (E : Value → Shared → Prop) (Q : Bool → Shared → Prop), Q true s → wpAny M A (isInstance (.bytes c u) (.type "bytes")) Q E s :=
    fun s _ _ _ _ q => wpAny_isInstance (typeIs_bytes s c u) F.sub_bytes_bytes q
  cases up <;> exact .of_wp fun M A E s Q q => wpAny_bind (wpAny_of_eq (a := (.bytes b t, [.bytes c u])) rfl (wpAny_bind (both s _ _ _ _ (wpAny_pure ⟨_, rfl, q⟩))))
theorem rc_order {prog : Program} {w : World} {A : Around} {E : Value → Shared → Prop} {s : Shared} {Q : Value → Shared → Prop} (up : Bool) {b c : Array UInt8} {t u : Tok} (h : Q (.bool (ansOf up (Builtin.Bytes.order b.toList c.toList))) s) :
    wpAny (model prog w) A (richCompare (opOf up) (.bytes b t) (.bytes c u)) Q E s :=
  richCompare_gives (op := opOf up) (typeIs_bytes s b t) (typeIs_bytes s c u) (slot_octets up) (entry_octets up) (args_octets up _ _) (gives_order up b c t u) (fun e => nomatch e) h
theorem BytesAre.at_ {vs : List Value} {bs : List (Array UInt8)} (hv : BytesAre vs bs) (i : Nat) : vs.toArray[((i : Nat) : Int).toNat]? = none ∧ bs.drop i = [] ∨ ∃ t b, vs.toArray[((i : Nat) : Int).toNat]? = some (.bytes b t) ∧ bs.drop i = b :: bs.drop (i + 1) := by
  have n := hv.length
  rcases Nat.lt_or_ge i bs.length with lt | ge
  · obtain ⟨t, e⟩ := hv.get (List.getElem?_eq_getElem lt)
    exact .inr ⟨t, bs[i], by simpa using e, List.drop_eq_getElem_cons lt⟩
  · exact .inl ⟨by simp [n, ge], List.drop_eq_nil_of_le ge⟩
theorem ans_compare (up : Bool) (m k : Nat) : ansOf up (compare m k) = if up then decide (m < k) else decide (m > k) := by
  rcases Nat.lt_trichotomy m k with h | rfl | h
  · have : ¬ k < m := by omega
    cases up <;> simp [ansOf, Nat.compare_eq_ite_lt, h, this]
  · cases up <;> simp [ansOf]
  · have : ¬ m < k := by omega
    cases up <;> simp [ansOf, Nat.compare_eq_ite_lt, h, this]
theorem compare_sub {m k i : Nat} (hm : i ≤ m) (hk : i ≤ k) : compare (m - i) (k - i) = compare m k := by
  have a : m - i < k - i ↔ m < k := by omega
  have b : k - i < m - i ↔ k < m := by omega
  simp only [Nat.compare_eq_ite_lt, a, b]
/-- one turn of the loop over two lists, at place i -/
theorem order_turn (up : Bool) {prog : Program} {w : World} {A : Around} {E : Value → Shared → Prop} {s : Shared} {Q : Fin → Shared → Prop} {l b : Addr} {n n2 : Nat} {vs us : List Value} {xs ys : List (Array UInt8)} (hv : BytesAre vs xs) (hu : BytesAre us ys) (i : Nat)
    (hl : s.heap.get? l = some (listOf vs.toArray n)) (hb : s.heap.get? b = some (listOf us.toArray n2)) (le : i ≤ xs.length ∧ i ≤ ys.length)
    (more : ordL (xs.drop i) (ys.drop i) = ordL (xs.drop (i + 1)) (ys.drop (i + 1)) → i < xs.length → i < ys.length → Q (.again (.builtin "list.__eq__.loop" ⟨[.ref l, .ref b, rawInt ((i + 1 : Nat) : Int), rawInt (if up then 0 else 4)], []⟩)) s)
    (ends : Q (.done (.ret (.bool (ansOf up (ordL (xs.drop i) (ys.drop i)))))) s) :
    wpAny (model prog w) A (Builtin.«list.__eq__.loop» ⟨[.ref l, .ref b, rawInt i, rawInt (if up then 0 else 4)], []⟩) Q E s := by
  have first : ∀ Q' : Array Value → Shared → Prop, Q' vs.toArray s → wpAny (model prog w) A (Builtin.List.listItems (.ref l)) Q' E s := fun _ => wpAny_listItems hl rfl
  have second : ∀ Q' : Array Value → Shared → Prop, Q' us.toArray s → wpAny (model prog w) A (Builtin.List.listItems (.ref b)) Q' E s := fun _ => wpAny_listItems hb rfl
  have nv := hv.length
  have nu := hu.length
  -- where one of the two has ended, their lengths tell
  have lens : (xs.drop i = [] ∨ ys.drop i = []) → ordL (xs.drop i) (ys.drop i) = compare vs.toArray.size us.toArray.size := by
    rw [List.size_toArray, List.size_toArray, nv, nu, ← compare_sub le.1 le.2, ← List.length_drop, ← List.length_drop]
    rintro (e | e) <;> rw [e]
    · exact ordL_nil _
    · exact ordL_nil' _
  have told : (xs.drop i = [] ∨ ys.drop i = []) → Q (.done (.ret (.bool (if up then decide (vs.toArray.size < us.toArray.size) else decide (vs.toArray.size > us.toArray.size))))) s := fun e => by
    rw [lens e, ans_compare] at ends; exact ends
  rcases hv.at_ i with ⟨ni, ei⟩ | ⟨t₁, x, ni, ei⟩
  · cases up
    all_goals
      show wpAny _ _ (Builtin.List.listItems (.ref l) >>= fun as => Builtin.List.listItems (.ref b) >>= fun bs => _) _ _ _
      refine wpAny_bind (first _ (wpAny_bind (second _ ?_)))
      rw [ni]
      exact wpAny_bind (first _ (wpAny_bind (second _ (wpAny_pure (told (.inl ei))))))
  rcases hu.at_ i with ⟨nj, ej⟩ | ⟨t₂, y, nj, ej⟩
  · cases up
    all_goals
      show wpAny _ _ (Builtin.List.listItems (.ref l) >>= fun as => Builtin.List.listItems (.ref b) >>= fun bs => _) _ _ _
      refine wpAny_bind (first _ (wpAny_bind (second _ ?_)))
      rw [ni, nj]
      exact wpAny_bind (first _ (wpAny_bind (second _ (wpAny_pure (told (.inr ej))))))
  have lt : i < xs.length ∧ i < ys.length := by
    constructor <;> refine Nat.lt_of_not_le fun ge => ?_
    · rw [List.drop_eq_nil_of_le ge] at ei; cases ei
    · rw [List.drop_eq_nil_of_le ge] at ej; cases ej
  have open_ : ordL (xs.drop i) (ys.drop i) = if x.toList == y.toList then ordL (xs.drop (i + 1)) (ys.drop (i + 1)) else Builtin.Bytes.order x.toList y.toList := by rw [ei, ej]; rfl
  have rc := fun (Q' : Value → Shared → Prop) => rc_order (prog := prog) (w := w) (A := A) (E := E) (s := s) (Q := Q') up (b := x) (c := y) (t := t₁) (u := t₂)
  cases up
  all_goals
    show wpAny _ _ (Builtin.List.listItems (.ref l) >>= fun as => Builtin.List.listItems (.ref b) >>= fun bs => _) _ _ _
    refine wpAny_bind (first _ (wpAny_bind (second _ ?_)))
    rw [ni, nj]
    refine wpAny_bind (eq_octets ?_)
    cases q : x.toList == y.toList
    · rw [q] at open_
      refine wpAny_bind (first _ (wpAny_bind (second _ ?_)))
      rw [ni, nj]
      refine wpAny_bind (rc _ (wpAny_pure ?_))
      rw [open_] at ends; exact ends
    · rw [q] at open_
      exact wpAny_pure (more open_ lt.1 lt.2)
/-- the loop, from place i on: to the end of the shorter row there are k turns -/
theorem order_loop (up : Bool) {prog : Program} {w : World} {A : Around} {R : Result → Shared → Prop} {s : Shared} {l b : Addr} {n n2 : Nat} {vs us : List Value} {xs ys : List (Array UInt8)} (hv : BytesAre vs xs) (hu : BytesAre us ys)
    (hl : s.heap.get? l = some (listOf vs.toArray n)) (hb : s.heap.get? b = some (listOf us.toArray n2)) : ∀ k i : Nat, xs.length + 1 = i + k → i ≤ xs.length → i ≤ ys.length → R (.ok (.ret (.bool (ansOf up (ordL (xs.drop i) (ys.drop i)))))) s →
    codeAny (model prog w) A (.builtin "list.__eq__.loop" ⟨[.ref l, .ref b, rawInt i, rawInt (if up then 0 else 4)], []⟩) R s
  | 0, i, e, le, _, _ => absurd e (by omega)
  | k + 1, i, e, le, le', h => by
    refine codeAny_builtin entry_eq_loop ?_
    rw [Around.under_plainId plain_eq_loop _]
    refine order_turn up hv hu i hl hb ⟨le, le'⟩ (fun same lt lt' => ⟨plainId_quiet plain_eq_loop _, ?_⟩) h
    exact order_loop up hv hu hl hb k (i + 1) (by omega) lt lt' (same ▸ h)
theorem slot_order (up : Bool) : Slot "list" (cmpInfo (opOf up)).2.1 (if up then "list.__lt__" else "list.__gt__") := by
  cases up
  · exact F.slot_list_gt
  · exact F.slot_list_lt
/-- two lists of octets, asked by < or > -/
theorem rcL_order (up : Bool) {prog : Program} {w : World} {A : Around} {E : Value → Shared → Prop} {s : Shared} {Q : Value → Shared → Prop} {l b : Addr} {n n2 : Nat} {vs us : List Value} {xs ys : List (Array UInt8)} (hv : BytesAre vs xs) (hu : BytesAre us ys) (hl : s.heap.get? l = some (listOf vs.toArray n)) (hb : s.heap.get? b = some (listOf us.toArray n2))
    (hr : A.units < cLine) (h : Q (.bool (ansOf up (ordL xs ys))) s) : wpAny (model prog w) A (richCompare (opOf up) (.ref l) (.ref b)) Q E s := by
  have Tl : s.TypeIs (.ref l) "list" := ⟨_, hl, rfl⟩
  have Tb : s.TypeIs (.ref b) "list" := ⟨_, hb, rfl⟩
  have loop : ∀ (A : Around) (R : Result → Shared → Prop), R (.ok (.ret (.bool (ansOf up (ordL xs ys))))) s → codeAny (model prog w) A (.builtin "list.__eq__.loop" ⟨[.ref l, .ref b, rawInt 0, rawInt (if up then 0 else 4)], []⟩) R s :=
    fun A R q => order_loop up hv hu hl hb (xs.length + 1) 0 (by omega) (Nat.zero_le _) (Nat.zero_le _) q
  refine wpAny_richCompare_same_room Tl Tb (slot_order up) (wpAny_call ?_) hr
  have is : ∀ (A : Around) (E : Value → Shared → Prop) (Q : Bool → Shared → Prop), Q true s → wpAny (model prog w) A (isInstance (.ref b) (.type "list")) Q E s := fun _ _ _ q => wpAny_isInstance Tb AutoSeq1.sub_list_list q
  cases up
  · refine codeAny_call_builtin F.slot_list_gt.plain F.entry_list_gt (F.slot_list_gt.check _ _ _ _ _ _ _ _ Tl (F.args_list_gt_2 _ _) ?_)
    exact wpAny_bind (wpAny_of_eq (a := (.ref l, [.ref b])) rfl (wpAny_bind (is _ _ _ (wpAny_pure ⟨plainId_quiet plain_eq_loop _, loop _ _ ⟨nofun, h⟩⟩))))
  · refine codeAny_call_builtin F.slot_list_lt.plain F.entry_list_lt (F.slot_list_lt.check _ _ _ _ _ _ _ _ Tl (F.args_list_lt_2 _ _) ?_)
    exact wpAny_bind (wpAny_of_eq (a := (.ref l, [.ref b])) rfl (wpAny_bind (is _ _ _ (wpAny_pure ⟨plainId_quiet plain_eq_loop _, loop _ _ ⟨nofun, h⟩⟩))))
end Mine
end
section
open PySem PySem.W PyProof.Rows PySem.Calls
set_option maxRecDepth 100000
namespace Mine
/-- the codes that may hold a bytearray -/
noncomputable def holdIds : List String := ["bytearray.__contains__", "bytearray.__mod__", "bytearray.__rmod__", "_struct.pack_into.held", "bytearray.find.held"] ++ Builtin.Bytes.decodersThatHold
/-- a code that holds no bytearray -/
noncomputable def calm : Code → Bool
  | .builtin id _ => !(holdIds.contains id)
  | _ => true
/-- a set of contexts that is kept by calm codes -/
structure Kept (P : Ctx → Prop) : Prop where
  goto : ∀ Γ c, calm c = true → P Γ → P (Γ.goto c)
  enter : ∀ Γ c h p, calm c = true → P Γ → P (Γ.enter c h p)
noncomputable def Every : Ctx → Prop := fun _ => True
theorem every_kept : Kept Every := ⟨fun _ _ _ _ => trivial, fun _ _ _ _ _ _ => trivial⟩
/-- no code of the context's holds a bytearray -/
noncomputable def Clean (Γ : Ctx) : Prop := calm Γ.code = true ∧ ∀ x ∈ Γ.below, calm x.1 = true
theorem clean_kept : Kept Clean := ⟨fun _ _ hc h => ⟨hc, h.2⟩, fun _ _ _ _ hc h => ⟨hc, fun x hx => by
  rcases List.mem_cons.mp hx with rfl | hx
  · exact h.1
  · exact h.2 x hx⟩⟩
/-- a place in which a tree may be run: a context of the set, within what is known around -/
structure Spot (P : Ctx → Prop) (A : Around) where
  ctx : Ctx
  known : ctx.In A
  fit : P ctx
/-- a place in which a code may be run: as Spot, the code itself named -/
structure Seat (P : Ctx → Prop) (A : Around) (c : Code) where
  ctx : Ctx
  code : ctx.code = c
  known : ctx.Below A
  fit : P ctx
noncomputable def Spot.enter {P : Ctx → Prop} {A : Around} (x : Spot P A) (K : Kept P) (c : Code) (h : Option Value) (p : Pos) (calm_ : calm c = true) (hb : h ≠ some byPass) : Seat P (A.mark h) c :=
  { ctx := x.ctx.enter c h p, code := rfl, known := x.known.enter c h p hb, fit := K.enter _ _ _ _ calm_ x.fit }
noncomputable def Seat.spot {P : Ctx → Prop} {A : Around} {c : Code} (x : Seat P A c) : Spot P (A.under c) := { ctx := x.ctx, known := by have k := x.known.in; rw [x.code] at k; exact k, fit := x.fit }
noncomputable def Seat.turn {P : Ctx → Prop} {A : Around} {c : Code} (x : Seat P A c) (K : Kept P) (c' : Code) (calm_ : calm c' = true) : Seat P A c' :=
  { ctx := x.ctx.goto c', code := rfl, known := x.known.goto c', fit := K.goto _ _ calm_ x.fit }
/-- the tree t ends in Q, or raises in E, in every place of the set -/
noncomputable def wpP (P : Ctx → Prop) {α : Type} (M : Model) (A : Around) (t : Sem α) (Q : α → Shared → Prop) (E : Value → Shared → Prop) (s : Shared) : Prop :=
  ∀ (x : Spot P A) (p : Pos), Sem.wp M x.ctx t (fun a _ => Q a) (fun e _ => E e) p s
/-- the code c ends in R, in every place of the set -/
noncomputable def codeP (P : Ctx → Prop) (M : Model) (A : Around) (c : Code) (R : Result → Shared → Prop) (s : Shared) : Prop := ∀ (x : Seat P A c) (p : Pos), wpCode M x.ctx R p s
section
variable {P : Ctx → Prop} {α β : Type} {M : Model} {A : Around} {E : Value → Shared → Prop} {s : Shared}
theorem wpP.of_any {t : Sem α} {Q : α → Shared → Prop} (h : wpAny M A t Q E s) : wpP P M A t Q E s := fun x p => h x.ctx p x.known
theorem wpP.any {t : Sem α} {Q : α → Shared → Prop} (h : wpP Every M A t Q E s) : wpAny M A t Q E s := fun Γ p known => h ⟨Γ, known, trivial⟩ p
theorem codeP.of_any {c : Code} {R : Result → Shared → Prop} (h : codeAny M A c R s) : codeP P M A c R s := fun x p => h x.ctx p x.code x.known
theorem codeP.any {c : Code} {R : Result → Shared → Prop} (h : codeP Every M A c R s) : codeAny M A c R s := fun Γ p code known => h ⟨Γ, code, known, trivial⟩ p
/-- a tree that runs as another does, wherever it stands -/
theorem wpP.run_as {t : Sem α} {u : Sem β} {Q : α → Shared → Prop} {Q' : β → Shared → Prop} {E' : Value → Shared → Prop} (h : wpP P M A u Q' E' s)
    (same : ∀ (Γ : Ctx) (p : Pos), Sem.wp M Γ u (fun a _ => Q' a) (fun e _ => E' e) p s → Sem.wp M Γ t (fun a _ => Q a) (fun e _ => E e) p s) : wpP P M A t Q E s := fun x p => same _ _ (h x p)
theorem wpP_pure {a : α} {Q : α → Shared → Prop} (h : Q a s) : wpP P M A (pure a) Q E s := .of_any (wpAny_pure h)
theorem wpP_mono {t : Sem α} {Q Q' : α → Shared → Prop} {E' : Value → Shared → Prop} (h : wpP P M A t Q E s)
    (hQ : ∀ a s, Q a s → Q' a s) (hE : ∀ e s, E e s → E' e s) : wpP P M A t Q' E' s := by
  intro x p
  exact Sem.wp_mono _ _ _ (fun a _ => hQ a) (fun e _ => hE e) _ _ (h x p)
theorem wpP_bind {m : Sem α} {f : α → Sem β} {Q : β → Shared → Prop} (h : wpP P M A m (fun a s' => wpP P M A (f a) Q E s') E s) : wpP P M A (m >>= f) Q E s := by
  intro x p
  have first := h x p
  rw [Sem.wp_bind']
  refine Sem.wp_mono _ _ m ?_ ?_ _ _ first
  · intro a p' s' rest
    exact rest x p'
  · intro _ _ _ e
    exact e
/-- a first step that any context takes -/
theorem wpP_bindA {m : Sem α} {f : α → Sem β} {Q : β → Shared → Prop} (h : wpAny M A m (fun a s' => wpP P M A (f a) Q E s') E s) : wpP P M A (m >>= f) Q E s := wpP_bind (.of_any h)
theorem wpP_onRaise {m : Sem α} {k : Value → Sem Unit} {Q : α → Shared → Prop} (h : wpP P M A m Q (fun _ _ => False) s) : wpP P M A (m.onRaise k) Q E s :=
  h.run_as fun Γ p calm_ => (Sem.wp_onRaise ..).mpr (Sem.wp_mono _ _ _ (fun _ _ _ q => q) (fun _ _ _ no => no.elim) _ _ calm_)
theorem wpP_attempt {m : Sem α} {Q : Except Value α → Shared → Prop} (h : wpP P M A m (fun a => Q (.ok a)) (fun e => Q (.error e)) s) : wpP P M A m.attempt Q E s :=
  h.run_as fun _ _ q => (Sem.wp_attempt ..).mpr q
theorem wpP_holding {vs : List Value} {m : Sem α} {Q : α → Shared → Prop} (h : wpP P M A m Q E s) : wpP P M A (holding vs m) Q E s := h.run_as fun _ _ q => (Sem.wp_holding ..).mpr q
theorem wpP_keep {vs : List Value} {m : Sem α} {Q : α → Shared → Prop} (h : wpP P M A m Q E s) : wpP P M A (m.keep vs) Q E s := h.run_as fun _ _ q => (Sem.wp_keep ..).mpr q
theorem wpP_operate {vs : List Value} {m : Sem Value} {Q : Value → Shared → Prop} (h : wpP P M A m Q E s) : wpP P M A (operate vs m) Q E s := h.run_as fun _ _ q => (Sem.wp_operate ..).mpr q
theorem wpP_standAt {pos : Pos} {Q : Unit → Shared → Prop} (h : Q () s) : wpP P M A (standAt pos) Q E s := .of_any (wpAny_standAt h)
theorem wpP_of_eq {t : Sem α} {a : α} {Q : α → Shared → Prop} (e : t = pure a) (h : Q a s) : wpP P M A t Q E s := .of_any (wpAny_of_eq e h)
/-- a code that is run below: its seat is entered from the tree's place -/
theorem wpP_run (K : Kept P) {c : Code} {h : Option Value} {Q : Flow → Shared → Prop} (hc : calm c = true) (hk : codeP P M (A.mark h) c (fun r s' => match r with | .ok f => Q f s' | .error e => E e s') s) (hnb : h ≠ some byPass := by nofun) :
    wpP P M A (run c h) Q E s := fun x p => (Sem.wp_run ..).mpr (hk (x.enter K c h p hc hnb) p)
theorem wpP_runValue (K : Kept P) {c : Code} {Q : Value → Shared → Prop} (hc : calm c = true) (hk : codeP P M A c (fun r s' => match r with | .ok (.ret v) => Q v s' | .ok _ => False | .error e => E e s') s) :
    wpP P M A (runValue c) Q E s := fun x p => (Sem.wp_runValue ..).mpr (hk (x.enter K c none p hc nofun) p)
theorem wpP_call (K : Kept P) {f : Value} {pos : List Value} {kw : List (Str × Value)} {Q : Value → Shared → Prop} (hk : codeP P M A (.call f ⟨pos, kw⟩) (fun r s' => match r with | .ok (.ret v) => Q v s' | .ok _ => False | .error e => E e s') s) :
    wpP P M A (call f pos kw) Q E s := wpP_runValue K rfl hk
theorem wpP_runOwn (K : Kept P) {c : Code} {env : Env} {Q : Flow → Shared → Prop} (hc : calm c = true) (hk : codeP P M A c (fun r s' => match r with | .ok f => Q f s' | .error _ => False) s) : wpP P M A (runOwn c env) Q E s := by
  unfold runOwn
  exact wpP_onRaise (wpP_run K hc hk)
theorem codeP_mono {c : Code} {R R' : Result → Shared → Prop} (h : codeP P M A c R s) (hR : ∀ r s, R r s → R' r s) : codeP P M A c R' s := fun x p => wpCode_mono hR (h x p)
/-- what a tree's end must be for its code to end in R: done, or on as another calm code that does -/
noncomputable def onP (P : Ctx → Prop) (M : Model) (A : Around) (R : Result → Shared → Prop) (fin : Fin) (s' : Shared) : Prop :=
  match fin with
  | .done f => R (.ok f) s'
  | .again c' => c'.quiet = true ∧ calm c' = true ∧ codeP P M A c' R s'
/-- a code by its tree -/
theorem codeP_of_tree (K : Kept P) {c : Code} {R : Result → Shared → Prop} (h : wpP P M (A.under c) (M.den c) (onP P M A R) (fun e s' => R (.error e) s') s) : codeP P M A c R s := by
  intro x p
  refine (wpCode_iff_wp ..).mpr ?_
  rw [x.code]
  refine Sem.wp_mono _ _ _ ?_ (fun _ _ _ e => e) _ _ (h x.spot p)
  rintro (f | c') p' s' q
  · exact q
  · exact ⟨q.1, q.2.2 (x.turn K c' q.2.1) p'⟩
/-- a code that comes back as itself: by a measure that every turn lowers -/
theorem codeP_loop (K : Kept P) {c : Code} {R : Result → Shared → Prop} (hq : c.quiet = true) (hc : calm c = true) (I : Nat → Shared → Prop)
    (turn : ∀ n s, I n s → wpP P M (A.under c) (M.den c) (fun fin s' => (fin = .again c ∧ ∃ k < n, I k s') ∨ onP P M A R fin s') (fun e s' => R (.error e) s') s) (n : Nat) (h : I n s) : codeP P M A c R s := by
  have below : ∀ b n s, n < b → I n s → codeP P M A c R s := by
    intro b
    induction b with
    | zero => intro n _ no; exact absurd no (Nat.not_lt_zero n)
    | succ b ih =>
      intro n s le hI
      refine codeP_of_tree K (wpP_mono (turn n s hI) ?_ fun _ _ e => e)
      rintro fin s' (⟨rfl, k, lt, hk⟩ | q)
      · exact ⟨hq, hc, ih k s' (by omega) hk⟩
      · exact q
  exact below (n + 1) n s (Nat.lt_succ_self n) h
end
end Mine
end
section
open PySem PySem.W PyProof.Rows PySem.Calls
set_option maxRecDepth 100000
namespace Mine
section
variable {P : Ctx → Prop} {prog : Program} {w : World} {A : Around} {E : Value → Shared → Prop} {s : Shared} {env : Env}
/-- a for loop by its turns: J i holds where i items have been taken -/
theorem for_turns (K : Kept P) {target : Expr} {it : Value} {body : List Stmt} {n : Nat} {R : Result → Shared → Prop} (J : Nat → Shared → Prop)
    (turn : ∀ i s, i < n → J i s → wpAny (model prog w) A (pyNext it) (fun r t => ∃ v, r = some v ∧ wpAny (model prog w) A (letOwnedTupleGo target it v) (fun _ t₁ => wpAny (model prog w) A (assign target env v) (fun _ t₂ =>
      wpP P (model prog w) A (execs body env) (fun f t₃ => match f with
        | .next | .cont => J (i + 1) t₃
        | .brk => R (.ok .next) t₃
        | .ret v => R (.ok (.ret v)) t₃) (fun _ _ => False) t₂) (fun _ _ => False) t₁) (fun _ _ => False) t) (fun _ _ => False) s)
    (done : ∀ s, J n s → wpAny (model prog w) A (pyNext it) (fun r t => r = none ∧ R (.ok .next) t) (fun _ _ => False) s) (h0 : J 0 s) :
    codeP P (model prog w) A (.forLoop target it body [] env) R s := by
  -- k turns and the end are still to come, i have been
  refine codeP_loop K rfl rfl (fun k t => ∃ i ≤ n, i + k = n + 1 ∧ J i t) ?_ (n + 1) ⟨0, Nat.zero_le _, Nat.zero_add _, h0⟩
  rintro k t ⟨i, le, sum, hi⟩
  have plain : ∀ {c : Code}, c.weight = 0 → c.cUnits = 0 → A.under c = A := fun w u => Around.under_of_weight w u
  rw [plain rfl rfl]
  refine wpP_onRaise (m := forTurn target it body [] env) (wpP_bind (wpP_standAt (wpP_bind (wpP_onRaise ?_))))
  rcases Nat.lt_or_ge i n with lt | ge
  · refine .of_any (wpAny_mono (turn i t lt hi) ?_ fun _ _ no => no)
    rintro _ t₀ ⟨v, rfl, q⟩
    refine wpP_bindA (wpAny_mono q ?_ fun _ _ no => no.elim)
    intro _ t₁ q₁
    refine wpP_bindA (wpAny_mono q₁ ?_ fun _ _ no => no.elim)
    intro _ t₂ q₂
    refine wpP_bind (wpP_mono q₂ ?_ fun _ _ no => no.elim)
    have on : ∀ t₃, J (i + 1) t₃ → ∃ k' < k, ∃ i' ≤ n, i' + k' = n + 1 ∧ J i' t₃ := fun t₃ q => ⟨k - 1, by omega, i + 1, lt, by omega, q⟩
    rintro (_ | _ | _ | v) t₃ q
    · exact wpP_pure (.inl ⟨rfl, on _ q⟩)
    · exact wpP_pure (.inr q)
    · exact wpP_pure (.inl ⟨rfl, on _ q⟩)
    · exact wpP_pure (.inr q)
  · obtain rfl : i = n := Nat.le_antisymm le ge
    refine .of_any (wpAny_mono (done t hi) ?_ fun _ _ no => no)
    rintro _ t₀ ⟨rfl, q⟩
    refine wpP_pure (.inr ⟨rfl, rfl, codeP_of_tree K ?_⟩)
    rw [plain rfl rfl]
    exact wpP_bind (wpP_onRaise (m := execs [] env) (wpP_pure (wpP_pure q)))
theorem for_walk (K : Kept P) {target : Expr} {body : List Stmt} {I : Addr} {fp wr : List Addr} {n : Nat} {Pv : Nat → Value → Prop} {St : Nat → Heap → Prop} {R : Result → Shared → Prop}
    (W : Walks prog w A I fp wr n Pv St) (J : Nat → Shared → Prop) (hJ : ∀ i s, J i s → St i s.heap)
    (turn : ∀ i s v h' tk, i < n → J i s → Pv i v → St (i + 1) h' → (∀ b o, b ∉ wr → s.heap.get? b = some o → h'.get? b = some o) →
      wpAny (model prog w) A (assign target env v) (fun _ s₂ => wpP P (model prog w) A (execs body env) (fun f s₃ => match f with
        | .next | .cont => J (i + 1) s₃
        | .brk => R (.ok .next) s₃
        | .ret v => R (.ok (.ret v)) s₃) (fun _ _ => False) s₂) (fun _ _ => False) { s with heap := h', toks := tk })
    (done : ∀ s h' tk, J n s → (∀ b o, b ∉ wr → s.heap.get? b = some o → h'.get? b = some o) → R (.ok .next) { s with heap := h', toks := tk })
    (h0 : J 0 s) (ht : ∀ v, letOwnedTupleGo target (.ref I) v = pure () := by intro _; rfl) :
    codeP P (model prog w) A (.forLoop target (.ref I) body [] env) R s :=
  for_turns K J (fun i s lt hi => W.item i s _ _ lt (hJ _ _ hi) fun v h' tk hv st keep => ⟨v, rfl, wpAny_of_eq (ht v) (turn i s v h' tk lt hi hv st keep)⟩)
    (fun s hi => W.done s _ _ (hJ _ _ hi) fun h' tk keep => ⟨rfl, done s h' tk hi keep⟩) h0
theorem For_walk (K : Kept P) {target iter : Expr} {body : List Stmt} {pos : Pos} {Q : Flow → Shared → Prop}
    (h : wpAny (model prog w) A (eval iter env) (fun x s₁ => wpAny (model prog w) A (pyIter x) (fun it s₂ =>
      codeP P (model prog w) A (.forLoop target it body [] env) (fun r s' => match r with | .ok f => Q f s' | .error _ => False) s₂) E s₁) E s)
    (hs : ∀ x, foldedSetIterable iter env x = pure x := by intro _; rfl) :
    wpP P (model prog w) A (exec (.For target iter body [] pos) env) Q E s := by
  rw [exec_For]
  refine wpP_bind (wpP_standAt (wpP_bindA (wpAny_mono h (fun x s₁ h₁ => ?_) fun _ _ h' => h')))
  refine wpP_bindA (wpAny_of_eq (hs x) ?_)
  refine wpP_bind (wpP_standAt (wpP_bindA (wpAny_holding (wpAny_mono h₁ (fun it s₂ h₂ => ?_) fun _ _ h' => h'))))
  exact wpP_runOwn K rfl h₂
/-- the loop with a frame and a ledger: the iterator stands in the ledger, J says what holds between the turns -/
theorem for_led (K : Kept P) {h₀ : Heap} {L : Addr} {target : Expr} {body : List Stmt} {I : Addr} {keep : List (Addr × Obj)} {n : Nat} {Pv : Nat → Value → Prop} {St : Nat → Heap → Prop} {Q : Flow → Shared → Prop} {m : Str → Option Value} {news : List (Addr × Obj)}
    (W : Walks prog w A I (I :: keep.map (·.1)) [I] n Pv St) (hIL : L ≠ I) (hI₀ : h₀.get? I = none) (hIo : ∀ i h, St i h → ∃ o, h.get? I = some o)
    (J : Nat → (Str → Option Value) → List (Addr × Obj) → Prop) (hkeep : ∀ i m nw, J i m nw → ∀ p ∈ keep, p ∈ nw)
    (hst : St 0 s.heap) (F : Fr h₀ L s.heap m) (N : News h₀ L s.heap news) (hoff : ∀ p ∈ news, p.1 ≠ I) (h0 : J 0 m news)
    (turn : ∀ i v m₁ news₁ h₁ tk₁ oI, i < n → Pv i v → J i m₁ news₁ → (∀ p ∈ news₁, p.1 ≠ I) → Fr h₀ L h₁ m₁ → News h₀ L h₁ ((I, oI) :: news₁) →
      wpAny (model prog w) A (assign target env v) (fun _ s₂ => wpP P (model prog w) A (execs body env) (fun f s₃ => match f with
        | .next | .cont => UnrEnd h₀ L s I oI (J (i + 1)) s₃
        | .brk => Q .next s₃
        | .ret v => Q (.ret v) s₃) (fun _ _ => False) s₂) (fun _ _ => False) { s with heap := h₁, toks := tk₁ })
    (fin : ∀ h' tk m' news', Fr h₀ L h' m' → News h₀ L h' news' → (∀ p ∈ news', p.1 ≠ I) → J n m' news' → Q .next { s with heap := h', toks := tk })
    (ht : ∀ v, letOwnedTupleGo target (.ref I) v = pure () := by intro _; rfl) :
    codeP P (model prog w) A (.forLoop target (.ref I) body [] env) (fun r s' => match r with | .ok f => Q f s' | .error _ => False) s := by
  have next : ∀ {h₁ h₂ : Heap} {m₁ : Str → Option Value} {nw : List (Addr × Obj)}, Fr h₀ L h₁ m₁ → News h₀ L h₁ nw → (∀ p ∈ nw, p.1 ≠ I) → (∀ b o, b ∉ [I] → h₁.get? b = some o → h₂.get? b = some o) → Fr h₀ L h₂ m₁ ∧ News h₀ L h₂ nw := fun F N off k =>
    ⟨⟨F.ns.at' fun o e => k _ o (by simpa using hIL) e, fun b o e => k b o (fun hb => by rw [List.mem_singleton.mp hb, hI₀] at e; cases e) (F.keep b o e), F.above⟩,
      fun p hp => ⟨k _ _ (by simpa using off p hp) (N p hp).1, (N p hp).2⟩⟩
  refine for_walk K W (fun i s' => ∃ h' tk m' news', s' = { s with heap := h', toks := tk } ∧ St i h' ∧ Fr h₀ L h' m' ∧ News h₀ L h' news' ∧ (∀ p ∈ news', p.1 ≠ I) ∧ J i m' news')
    (fun i s' ⟨h', tk, m', news', e, st, _⟩ => by subst e; exact st) ?_ ?_ ⟨s.heap, s.toks, m, news, rfl, hst, F, N, hoff, h0⟩ ht
  · rintro i s' v h₂ tk₂ hi ⟨h₁, tk₁, m₁, news₁, rfl, st, F₁, N₁, off₁, hJ⟩ hv st₂ hk
    obtain ⟨F₂, N₂⟩ := next F₁ N₁ off₁ hk
    obtain ⟨oI, hoI⟩ := hIo _ _ st₂
    have N₂' : News h₀ L h₂ ((I, oI) :: news₁) := fun p hp => by
      rcases List.mem_cons.mp hp with rfl | hp
      · exact ⟨hoI, Ne.symm hIL, hI₀⟩
      · exact N₂ p hp
    refine wpAny_mono (turn i v m₁ news₁ h₂ tk₂ oI hi hv hJ off₁ F₂ N₂') (fun _ s₂ h₂' => wpP_mono h₂' (fun f s₃ h₃ => ?_) fun _ _ x => x) fun _ _ x => x
    have back : UnrEnd h₀ L s I oI (J (i + 1)) s₃ →
        ∃ h' tk m' news', s₃ = { s with heap := h', toks := tk } ∧ St (i + 1) h' ∧ Fr h₀ L h' m' ∧ News h₀ L h' news' ∧ (∀ p ∈ news', p.1 ≠ I) ∧ J (i + 1) m' news' := by
      clear h₃
      rintro ⟨h₄, tk₃, m₃, news₃, rfl, F₃, N₃, off₃, hJ₃⟩
      refine ⟨h₄, tk₃, m₃, news₃, rfl, W.frame _ _ _ st₂ fun b hb o e => ?_, F₃, fun p hp => N₃ p (List.mem_cons_of_mem _ hp), off₃, hJ₃⟩
      rcases List.mem_cons.mp hb with rfl | hb
      · have := (N₃ (b, oI) List.mem_cons_self).1
        rw [hoI] at e; cases e; exact this
      · obtain ⟨p, hp, rfl⟩ := List.mem_map.mp hb
        have h1 := (N₂ p (hkeep _ _ _ hJ p hp)).1
        have h2 := (N₃ p (List.mem_cons_of_mem _ (hkeep _ _ _ hJ₃ p hp))).1
        rw [h1] at e; cases e; exact h2
    cases f with
    | next => exact back h₃
    | cont => exact back h₃
    | brk => exact h₃
    | ret v => exact h₃
  · rintro s' h₂ tk₂ ⟨h₁, tk₁, m₁, news₁, rfl, st, F₁, N₁, off₁, hJ⟩ hk
    obtain ⟨F₂, N₂⟩ := next F₁ N₁ off₁ hk
    exact fin h₂ tk₂ m₁ news₁ F₂ N₂ off₁ hJ
end
end Mine
end
section
open PySem PySem.W PyProof.Rows PySem.Calls
set_option maxRecDepth 100000
namespace Mine
abbrev tupObj (vs : List Value) (k : Nat) : Obj := { cls := .type "tuple", data := .seq vs.toArray k }
abbrev lstObj (vs : List Value) (k : Nat) : Obj := listOf vs.toArray k
section
variable {P : Ctx → Prop} {prog : Program} {w : World} {A : Around} {E : Value → Shared → Prop} {s : Shared} {env : Env} {h₀ : Heap} {L : Addr} {m : Str → Option Value} {news : List (Addr × Obj)} {target iter : Expr} {body : List Stmt} {pos : Pos} {Q : Flow → Shared → Prop}
/-- one turn of a loop, and what it leaves for the next -/
abbrev TurnTo (P : Ctx → Prop) (prog : Program) (w : World) (A : Around) (env : Env) (h₀ : Heap) (L : Addr) (body : List Stmt) (Q : Flow → Shared → Prop) (s : Shared) (I : Addr) (oI : Obj) (J : (Str → Option Value) → List (Addr × Obj) → Prop) (s₂ : Shared) : Prop :=
  wpP P (model prog w) A (execs body env) (fun f s₃ => match f with
    | .next | .cont => UnrEnd h₀ L s I oI J s₃
    | .brk => Q .next s₃
    | .ret v => Q (.ret v) s₃) (fun _ _ => False) s₂
theorem fresh_I (F : Fr h₀ L s.heap m) : L ≠ s.heap.objs.size ∧ h₀.get? s.heap.objs.size = none := ⟨Nat.ne_of_lt F.ns.lt, next_is_new F⟩
/-- a loop over a source x whose iterator is one new object o, with the ledger's keep behind it -/
theorem For_new (K : Kept P) {x : Value} {o : Obj} {keep : List (Addr × Obj)} {n : Nat} {Pv : Nat → Value → Prop} {St : Nat → Heap → Prop} (F : Fr h₀ L s.heap m) (N : News h₀ L s.heap news)
    (opens : ∀ (Q' : Value → Shared → Prop), Q' (.ref s.heap.objs.size) { s with heap := s.heap.push o } → wpAny (model prog w) A (pyIter x) Q' (fun _ _ => False) s)
    (W : Walks prog w A s.heap.objs.size (s.heap.objs.size :: keep.map (·.1)) [s.heap.objs.size] n Pv St) (live : ∀ i h, St i h → ∃ o, h.get? s.heap.objs.size = some o) (hst : St 0 (s.heap.push o))
    (J : Nat → (Str → Option Value) → List (Addr × Obj) → Prop) (hkeep : ∀ i m nw, J i m nw → ∀ p ∈ keep, p ∈ nw) (h0 : J 0 m news)
    (turn : ∀ i v m₁ news₁ h₁ tk₁ oI, i < n → Pv i v → J i m₁ news₁ → (∀ p ∈ news₁, p.1 ≠ s.heap.objs.size) → Fr h₀ L h₁ m₁ → News h₀ L h₁ ((s.heap.objs.size, oI) :: news₁) →
      wpAny (model prog w) A (assign target env v) (fun _ s₂ => TurnTo P prog w A env h₀ L body Q s s.heap.objs.size oI (J (i + 1)) s₂) (fun _ _ => False) { s with heap := h₁, toks := tk₁ })
    (fin : ∀ h' tk m' news', Fr h₀ L h' m' → News h₀ L h' news' → J n m' news' → Q .next { s with heap := h', toks := tk })
    (ht : ∀ v, letOwnedTupleGo target (.ref s.heap.objs.size) v = pure ()) :
    wpAny (model prog w) A (pyIter x) (fun it s₂ => codeP P (model prog w) A (.forLoop target it body [] env) (fun r s' => match r with | .ok f => Q f s' | .error _ => False) s₂) (fun _ _ => False) s := by
  have grown : ∀ b ob, s.heap.get? b = some ob → (s.heap.push o).get? b = some ob := fun b ob e => Heap.get?_push_of_some _ e
  have new := fresh_I F
  refine opens _ (for_led (s := { s with heap := s.heap.push o }) K W new.1 new.2 live J hkeep hst (F.keeps grown) (N.grown grown) (fun p hp => Nat.ne_of_lt (Heap.lt_size (N p hp).1)) h0 ?_ ?_ ht)
  · exact fun i v m₁ news₁ h₁ tk₁ oI => turn i v m₁ news₁ h₁ tk₁ oI
  · exact fun h' tk m' news' F' N' _ q => fin h' tk m' news' F' N' q
theorem For_tup (K : Kept P) {a : Addr} {vs : List Value} {k : Nat} (hh : A.handled = none) (F : Fr h₀ L s.heap m) (N : News h₀ L s.heap news) (hm : (a, tupObj vs k) ∈ news)
    (hx : wpAny (model prog w) A (eval iter env) (fun x s₁ => x = .ref a ∧ s₁ = s) E s)
    (J : Nat → (Str → Option Value) → List (Addr × Obj) → Prop) (hkeep : ∀ i m nw, J i m nw → (a, tupObj vs k) ∈ nw) (h0 : J 0 m news)
    (turn : ∀ i v m₁ news₁ h₁ tk₁ I oI, vs[i]? = some v → J i m₁ news₁ → (∀ p ∈ news₁, p.1 ≠ I) → Fr h₀ L h₁ m₁ → News h₀ L h₁ ((I, oI) :: news₁) →
      wpAny (model prog w) A (assign target env v) (fun _ s₂ => TurnTo P prog w A env h₀ L body Q s I oI (J (i + 1)) s₂) (fun _ _ => False) { s with heap := h₁, toks := tk₁ })
    (fin : ∀ h' tk m' news', Fr h₀ L h' m' → News h₀ L h' news' → J vs.length m' news' → Q .next { s with heap := h', toks := tk })
    (ht : ∀ I v, letOwnedTupleGo target (.ref I) v = pure () := by intro _ _; rfl)
    (hs : ∀ x, foldedSetIterable iter env x = pure x := by intro _; rfl) :
    wpP P (model prog w) A (exec (.For target iter body [] pos) env) Q E s := by
  refine For_walk K (wpAny_mono hx ?_ fun _ _ e => e) hs
  rintro _ s ⟨rfl, rfl⟩
  have tup : s.heap.IsTuple a vs.toArray := ⟨_, (N _ hm).1, rfl, _, rfl⟩
  refine wpAny_mono (For_new K (keep := [(a, tupObj vs k)]) F N (fun _ q => wpAny_pyIter_tuple tup q) (Walks.tuple hh _ a (Nat.ne_of_lt (Heap.lt_size (N _ hm).1)) vs.toArray) (fun i h st => st.1.imp fun _ e => e.1)
    ⟨⟨_, Heap.get?_push_size _ rfl, rfl, rfl⟩, tup.at fun o e => Heap.get?_push_of_some _ e⟩ J (fun i m nw q p hp => List.mem_singleton.mp hp ▸ hkeep i m nw q) h0 ?_ ?_ (ht _)) (fun _ _ q => q) fun _ _ no => no.elim
  · exact fun i v m₁ news₁ h₁ tk₁ oI _ hv => turn i v m₁ news₁ h₁ tk₁ _ oI (by simpa using hv)
  · exact fun h' tk m' news' F' N' q => fin h' tk m' news' F' N' (by simpa using q)
theorem For_lst (K : Kept P) {a : Addr} {vs : List Value} {k : Nat} (hh : A.handled = none) (F : Fr h₀ L s.heap m) (N : News h₀ L s.heap news) (hm : (a, lstObj vs k) ∈ news)
    (hx : wpAny (model prog w) A (eval iter env) (fun x s₁ => x = .ref a ∧ s₁ = s) E s)
    (J : Nat → (Str → Option Value) → List (Addr × Obj) → Prop) (hkeep : ∀ i m nw, J i m nw → (a, lstObj vs k) ∈ nw) (h0 : J 0 m news)
    (turn : ∀ i v m₁ news₁ h₁ tk₁ I oI, vs[i]? = some v → J i m₁ news₁ → (∀ p ∈ news₁, p.1 ≠ I) → Fr h₀ L h₁ m₁ → News h₀ L h₁ ((I, oI) :: news₁) →
      wpAny (model prog w) A (assign target env v) (fun _ s₂ => TurnTo P prog w A env h₀ L body Q s I oI (J (i + 1)) s₂) (fun _ _ => False) { s with heap := h₁, toks := tk₁ })
    (fin : ∀ h' tk m' news', Fr h₀ L h' m' → News h₀ L h' news' → J vs.length m' news' → Q .next { s with heap := h', toks := tk })
    (ht : ∀ I v, letOwnedTupleGo target (.ref I) v = pure () := by intro _ _; rfl)
    (hs : ∀ x, foldedSetIterable iter env x = pure x := by intro _; rfl) :
    wpP P (model prog w) A (exec (.For target iter body [] pos) env) Q E s := by
  refine For_walk K (wpAny_mono hx ?_ fun _ _ e => e) hs
  rintro _ s ⟨rfl, rfl⟩
  have lst : s.heap.IsList a vs.toArray := ⟨_, (N _ hm).1, rfl, _, rfl⟩
  refine wpAny_mono (For_new K (keep := [(a, lstObj vs k)]) F N (fun _ q => wpAny_pyIter_list lst q) (Walks.list hh _ a (Nat.ne_of_lt (Heap.lt_size (N _ hm).1)) vs.toArray) (fun i h st => st.1.imp fun _ e => e.1)
    ⟨⟨_, Heap.get?_push_size _ rfl, rfl, rfl⟩, lst.at fun o e => Heap.get?_push_of_some _ e⟩ J (fun i m nw q p hp => List.mem_singleton.mp hp ▸ hkeep i m nw q) h0 ?_ ?_ (ht _)) (fun _ _ q => q) fun _ _ no => no.elim
  · exact fun i v m₁ news₁ h₁ tk₁ oI _ hv => turn i v m₁ news₁ h₁ tk₁ _ oI (by simpa using hv)
  · exact fun h' tk m' news' F' N' q => fin h' tk m' news' F' N' (by simpa using q)
/-- a mark where the walk stops -/
noncomputable def Stop (p : Prop) : Prop := p
theorem Stop.go {p : Prop} (h : Stop p) : p := h
/-- a range has been made -/
noncomputable def RngAt (h₀ : Heap) (L : Addr) (m : Str → Option Value) (news : List (Addr × Obj)) (s : Shared) (a b c : Int) (x : Value) (s₁ : Shared) : Prop :=
  (∃ r t u v, x = .ref r ∧ IsRange s₁.heap r a b c t u v) ∧ (Fr h₀ L s₁.heap m ∧ News h₀ L s₁.heap news) ∧ ∃ h tk, s₁ = { s with heap := h, toks := tk }
theorem RngAt.intro {a b c : Int} {r : Addr} {t u v : Tok} {h : Heap} {tk : Nat} (hr : IsRange h r a b c t u v) (F : Fr h₀ L s.heap m) (N : News h₀ L s.heap news) (up : ∀ b o, s.heap.get? b = some o → h.get? b = some o) :
    RngAt h₀ L m news s a b c (.ref r) { s with heap := h, toks := tk } := ⟨⟨r, t, u, v, rfl, hr⟩, ⟨F.keeps up, N.grown up⟩, h, tk, rfl⟩
/-- over a range: the source is evaluated to a range object -/
theorem For_rng (K : Kept P) {a b c : Int} {n : Nat} (hh : A.handled = none) (hsm : Builtin.Range.small a b c = true) (hn : Builtin.Range.rangeSize a b c = (n : Int))
    (_F : Fr h₀ L s.heap m) (_N : News h₀ L s.heap news) (hx : wpAny (model prog w) A (eval iter env) (RngAt h₀ L m news s a b c) E s)
    (J : Nat → (Str → Option Value) → List (Addr × Obj) → Prop) (h0 : J 0 m news)
    (turn : ∀ i t m₁ news₁ h₁ tk₁ I oI, i < n → J i m₁ news₁ → (∀ p ∈ news₁, p.1 ≠ I) → Fr h₀ L h₁ m₁ → News h₀ L h₁ ((I, oI) :: news₁) →
      wpAny (model prog w) A (assign target env (.int (a + i * c) t)) (fun _ s₂ => TurnTo P prog w A env h₀ L body Q s I oI (J (i + 1)) s₂) (fun _ _ => False) { s with heap := h₁, toks := tk₁ })
    (fin : ∀ h' tk m' news', Fr h₀ L h' m' → News h₀ L h' news' → J n m' news' → Q .next { s with heap := h', toks := tk })
    (ht : ∀ I v, letOwnedTupleGo target (.ref I) v = pure () := by intro _ _; rfl)
    (hs : ∀ x, foldedSetIterable iter env x = pure x := by intro _; rfl) :
    wpP P (model prog w) A (exec (.For target iter body [] pos) env) Q E s := by
  refine For_walk K (wpAny_mono hx ?_ fun _ _ e => e) hs
  rintro _ _ ⟨⟨r, t, u, v, rfl, hr⟩, ⟨F, N⟩, h, tk, rfl⟩
  refine wpAny_mono (For_new (s := { s with heap := h, toks := tk }) K (keep := []) F N (fun _ q => wpAny_pyIter_range hr hsm q) (Walks.range hh h.objs.size a c n) (fun i h st => ⟨_, st⟩) ?_ J (fun _ _ _ _ _ no => nomatch no) h0 ?_ ?_ (ht _)) (fun _ _ q => q) fun _ _ no => no.elim
  · show IsRangeIter _ _ _ _ _
    rw [hn]
    simpa using Heap.get?_push_size _ rfl
  · rintro i _ m₁ news₁ h₁ tk₁ oI hi ⟨t, rfl⟩
    exact turn i t m₁ news₁ h₁ tk₁ _ oI hi
  · exact fun h' tk' m' news' F' N' q => fin h' tk' m' news' F' N' q
end
end Mine
end
section
open PySem PySem.W PyProof.Rows PySem.Calls
set_option maxRecDepth 100000
namespace Mine
section
variable {P : Ctx → Prop} {prog : Program} {w : World} {A : Around} {E : Value → Shared → Prop} {s : Shared} {env : Env} {h₀ : Heap} {L : Addr} {m : Str → Option Value} {news : List (Addr × Obj)} {target iter : Expr} {body : List Stmt} {pos : Pos} {Q : Flow → Shared → Prop}
theorem UnrEnd.mono {s₁ s₂ : Shared} {I : Addr} {o : Obj} {J J' : (Str → Option Value) → List (Addr × Obj) → Prop} (k : ∀ m nw, J m nw → J' m nw) (e : UnrEnd h₀ L s₁ I o J s₂) : UnrEnd h₀ L s₁ I o J' s₂ := by
  obtain ⟨h, tk, m', nw, rest⟩ := e
  exact ⟨h, tk, m', nw, rest.imp id (And.imp id (And.imp id (And.imp id (k m' nw))))⟩
/-- a loop over one item: what follows is told by what the turn leaves -/
theorem For_tup1 (K : Kept P) {a : Addr} {v : Value} {k : Nat} (hh : A.handled = none) (F : Fr h₀ L s.heap m) (N : News h₀ L s.heap news) (hm : (a, tupObj [v] k) ∈ news)
    (hx : wpAny (model prog w) A (eval iter env) (fun x s₁ => x = .ref a ∧ s₁ = s) E s)
    (turn : ∀ h₁ tk₁ I oI, (∀ p ∈ news, p.1 ≠ I) → Fr h₀ L h₁ m → News h₀ L h₁ ((I, oI) :: news) →
      wpAny (model prog w) A (assign target env v) (fun _ s₂ => TurnTo P prog w A env h₀ L body Q s I oI (fun m' news' => (a, tupObj [v] k) ∈ news' ∧ ∀ h tk, Fr h₀ L h m' → News h₀ L h news' → Q .next { s with heap := h, toks := tk }) s₂) (fun _ _ => False) { s with heap := h₁, toks := tk₁ })
    (ht : ∀ I v, letOwnedTupleGo target (.ref I) v = pure () := by intro _ _; rfl)
    (hs : ∀ x, foldedSetIterable iter env x = pure x := by intro _; rfl) :
    wpP P (model prog w) A (exec (.For target iter body [] pos) env) Q E s := by
  refine For_tup K hh F N hm hx (fun i m' nw => (a, tupObj [v] k) ∈ nw ∧ (i = 0 → m' = m ∧ nw = news) ∧ (i = 1 → ∀ h tk, Fr h₀ L h m' → News h₀ L h nw → Q .next { s with heap := h, toks := tk })) (fun _ _ _ h => h.1) ⟨hm, fun _ => ⟨rfl, rfl⟩, fun h => absurd h (by decide)⟩ ?_ (fun h' tk m' news' F' N' hJ => hJ.2.2 rfl h' tk F' N') ht hs
  intro i v' m₁ news₁ h₁ tk₁ I oI hv hJ off F₁ N₁
  match i, hv with
  | 0, hv =>
    obtain ⟨rfl, rfl⟩ := hJ.2.1 rfl
    obtain rfl : v = v' := by simpa using hv
    refine wpAny_mono (turn h₁ tk₁ I oI off F₁ N₁) (fun _ s₂ h₂ => wpP_mono h₂ (fun f s₃ h₃ => ?_) fun _ _ x => x) fun _ _ x => x
    rcases f with _ | _ | _ | v
    · exact UnrEnd.mono (fun m' nw q => ⟨q.1, fun no => absurd no (by decide), fun _ => q.2⟩) h₃
    · exact h₃
    · exact UnrEnd.mono (fun m' nw q => ⟨q.1, fun no => absurd no (by decide), fun _ => q.2⟩) h₃
    · exact h₃
  | i + 1, hv => simp at hv
end
end Mine
end
section
open PySem PySem.W PyProof.Rows PySem.Calls
set_option maxRecDepth 100000
namespace Mine
/-- what a name holds, of a map that is not written -/
noncomputable def At (m : Str → Option Value) (x : Str) (v : Value) : Prop := m x = some v
theorem At.here {m : Str → Option Value} {x : Str} {v : Value} : At (fun y => if y = x then some v else m y) x v := if_pos rfl
theorem At.skip {m : Str → Option Value} {x y : Str} {u v : Value} (hne : x ≠ y) (h : At m x v) : At (fun z => if z = y then some u else m z) x v := (if_neg hne).trans h
theorem Fr_here {h₀ h : Heap} {L : Addr} {m : Str → Option Value} {x : Str} {v : Value} (_ : Fr h₀ L h (fun y => if y = x then some v else m y)) : At (fun y => if y = x then some v else m y) x v := At.here
theorem name_at {m : Str → Option Value} {x : Str} {a : Addr} (h : At m x (.ref a)) : ∃ l, l = a ∧ At m x (.ref a) := ⟨a, rfl, h⟩
section
variable {prog : Program} {w : World} {M : Model} {A : Around} {E : Value → Shared → Prop} {s : Shared} {h₀ : Heap} {L : Addr} {m : Str → Option Value} {news : List (Addr × Obj)}
theorem append_L {pre post : List (Addr × Obj)} {D : Addr} {vs : List Value} {n : Nat} {x : Value} {Q : Value → Shared → Prop} (F : Fr h₀ L s.heap m) (N : News h₀ L s.heap (pre ++ (D, listOf vs.toArray n) :: post)) (h1 : ∀ p ∈ pre, p.1 ≠ D) (h2 : ∀ p ∈ post, p.1 ≠ D)
    (h : ∀ h', Fr h₀ L h' m → News h₀ L h' (pre ++ (D, listOf (vs ++ [x]).toArray (n + 1)) :: post) → Q .none { s with heap := h' }) (hsz : vs.length ≤ 1000000) : wpAny (model prog w) A (call (.builtin "list.append") [.ref D, x]) Q E s := by
  have z := N (D, listOf vs.toArray n) (List.mem_append.mpr (.inr (.head _)))
  refine append_at (hsz := by show vs.toArray.size ≤ sizeLine; rw [sizeLine_eq, List.size_toArray]; omega) z.1 fun h' hs ho' => h h' (F.change hs z.2.1 z.2.2) ?_
  exact N.setAt h1 h2 hs (ho'.trans (by simp))
/-- the last item -/
theorem item_last {value slice : Expr} {u : Tok} {a : Addr} {vs : List Value} {v : Value} {n : Nat} {Q : Value → Shared → Prop} (N : News h₀ L s.heap news) (hm : (a, listOf (vs ++ [v]).toArray n) ∈ news) (h : Q v s)
    (hs : subscripted slice false (.ref a) (.int (-1) u) = operate [.ref a, .int (-1) u] (getItem (.ref a) (.int (-1) u)) := by with_unfolding_all rfl) :
    wpAny (model prog w) A (subscriptTail value slice (.ref a) (.int (-1) u)) Q E s := by
  refine tail_any (isL N hm).typeIs slot_list_getitem.lookup (wpAny_getItem_list_neg (isL N hm) (by decide) (by simp; omega) (by decide) ?_ h) hs
  have e : (-1 + ((vs ++ [v]).toArray.size : Int)).toNat = vs.length := by simp; omega
  rw [e]
  simp
end
end Mine
end
section
open PySem PySem.W PyProof.Rows PySem.Calls
set_option maxRecDepth 100000
namespace Mine
section
variable {P : Ctx → Prop} {M : Model} {A : Around} {E : Value → Shared → Prop} {s : Shared} {env : Env}
/-- q holds, whatever becomes of the block's frame C -/
noncomputable def Freed (C : Addr) (q : Shared → Prop) (t : Shared) : Prop := ∃ m, t.heap.Ns C m ∧ ∀ h', Heap.SameBut C t.heap h' → q { t with heap := h' }
/-- what a comprehension's block must leave: its value goes on, or goes to a name -/
noncomputable def CAsk (M : Model) (A : Around) (E : Value → Shared → Prop) (use : Option (Value → Sem Unit)) (Q : Value → Shared → Prop) (acc : Value) (C : Addr) : Shared → Prop :=
  use.elim (Freed C (Q acc)) fun u => wpAny M A (u acc) (fun _ => Freed C (Q .none)) E
/-- the block, from a source's iterator on: what it fills is made, then its frame, then it runs -/
noncomputable def Block (P : Ctx → Prop) (M : Model) (A : Around) (E : Value → Shared → Prop) (use : Option (Value → Sem Unit)) (Q : Value → Shared → Prop) (e : Expr) (scope : Scope) (cl : List (Str × Addr)) (env : Env) (newAcc : Sem Value) (it : Value) : Shared → Prop :=
  wpAny M A newAcc (fun acc => wpAny M A (newFunctionEnv scope env.globals cl [] env.qual none .none (some env)) (fun cenv =>
    codeP P M A (.compStart e 0 it acc { cenv with scope := relabel scope env }) fun r t => (∃ f, r = .ok f) ∧ CAsk M A E use Q acc cenv.locals t) E) E
theorem compP (K : Kept P) {e : Expr} {scope : Scope} {pos : Pos} {newAcc first : Sem Value} {g : Comprehension} {gs : List Comprehension} {cl : List (Str × Addr)} {use : Option (Value → Sem Unit)} {Q : Value → Shared → Prop}
    (hcl : clausesOf e = g :: gs) (hs : ∀ x, foldedSetIterable g.iter env x = pure x) (hclos : closureFor scope env = pure cl)
    (hkind : scope.kind = .function) (hnames : ∀ x ∈ scope.names, x.2 = .local → scope.names.lookup x.1 = some .local)
    (h : wpP P M A first (fun x => wpAny M A (pyIter x) (Block P M A E use Q e scope cl env newAcc) E) E s) :
    wpP P M A (comprehension e scope env pos newAcc false first use) Q E s := by
  -- the block's own names are let go, whichever of them in whichever order
  have free : ∀ (cenv : Env) (cells : List (Str × NameKind) → List Value) (vs : List (Str × NameKind)), (∀ v ∈ vs, v ∈ scope.names) → ∀ (q : Shared → Prop) (t : Shared), Freed cenv.locals q t →
      wpAny M A (comprehension.letGo { cenv with scope := relabel scope env } cells vs) (fun _ => q) E t := by
    rintro cenv cells vs sub q t ⟨m, ns, k⟩
    exact wpAny_comp_letGo (cenv := { cenv with scope := relabel scope env }) hkind vs t m (fun v hv hl => lookup_relabel_local (hnames v (sub v hv) hl)) ns fun h' _ _ same => k h' same
  have sub : ∀ {keep : Str × NameKind → Bool} (v), v ∈ (scope.names.filter keep).reverse → v ∈ scope.names := fun v hv => (List.mem_filter.mp (List.mem_reverse.mp hv)).1
  unfold comprehension
  rw [hclos, hcl]
  refine wpP_bind (wpP_mono h ?_ fun _ _ e => e)
  intro x s₁ h₁
  refine wpP_bind (wpP_standAt (wpP_bindA (wpAny_of_eq (hs x) (wpP_bindA (wpAny_holding (wpAny_mono h₁ ?_ fun _ _ e => e))))))
  intro it s₂ h₂
  -- the frame is made, the block is run: both ends of the match share it
  cases use with
  | none =>
    refine wpP_bindA (wpAny_mono h₂ ?_ fun _ _ e => e)
    intro acc s₃ h₃
    refine wpP_bind (wpP_pure (wpP_bindA (wpAny_mono h₃ ?_ fun _ _ e => e)))
    intro cenv s₄ h₄
    refine wpP_holding (wpP_bind (wpP_attempt (wpP_holding (wpP_run K rfl (codeP_mono h₄ ?_)))))
    rintro _ t ⟨⟨f, rfl⟩, ask⟩
    exact wpP_bindA (wpAny_holding (wpAny_mono (free cenv _ _ sub _ t ask) (fun _ _ q => wpP_pure q) fun _ _ e => e))
  | some u =>
    refine wpP_bind (wpP_standAt (wpP_bindA (wpAny_mono h₂ ?_ fun _ _ e => e)))
    intro acc s₃ h₃
    refine wpP_bind (wpP_pure (wpP_bindA (wpAny_mono h₃ ?_ fun _ _ e => e)))
    intro cenv s₄ h₄
    refine wpP_holding (wpP_bind (wpP_attempt (wpP_holding (wpP_run K rfl (codeP_mono h₄ ?_)))))
    rintro _ t ⟨⟨f, rfl⟩, ask⟩
    refine wpP_bindA (wpAny_rule (wpP_bindA (wpAny_holding (wpAny_mono ask ?_ fun _ _ e => e))))
    intro _ t' fr
    have sub' : ∀ {keep : Str × NameKind → Bool} (v), v ∈ (scope.names.filter keep).reverse.drop 1 ++ (scope.names.filter keep).reverse.take 1 → v ∈ scope.names := fun v hv =>
      sub v ((List.mem_append.mp hv).elim List.mem_of_mem_drop List.mem_of_mem_take)
    exact wpP_bindA (wpAny_mono (free cenv _ _ sub' _ t' fr) (fun _ _ q => wpP_pure q) fun _ _ e => e)
end
end Mine
end
section
open PySem PySem.W PyProof.Rows PySem.Calls
set_option maxRecDepth 100000
namespace Mine
/-- none of the ledger's is the iterator, the block's frame, the list -/
noncomputable def Off3 (I C D : Addr) (news : List (Addr × Obj)) : Prop := ∀ p ∈ news, p.1 ≠ I ∧ p.1 ≠ C ∧ p.1 ≠ D
abbrev lstN (ys : List Value) : Obj := listOf ys.toArray ys.length
/-- the block's frame and what it fills are new, and not each other -/
structure Apart (h₀ : Heap) (L I C D : Addr) : Prop where
  ic : I ≠ C
  id : I ≠ D
  cd : C ≠ D
  cl : C ≠ L
  dl : D ≠ L
  c0 : h₀.get? C = none
  d0 : h₀.get? D = none
/-- a code of a comprehension's block that weighs nothing -/
structure Light (c : Code) : Prop where
  weight : c.weight = 0
  units : c.cUnits = 0
  frame : c.isFrame = false
section
variable {P : Ctx → Prop} {prog : Program} {w : World} {A : Around} {E : Value → Shared → Prop} {R : Result → Shared → Prop} {s : Shared} {env : Env} {h₀ : Heap} {L : Addr} {m : Str → Option Value} {news : List (Addr × Obj)} {e : Expr} {depth : Nat} {it acc : Value}
/-- the block's start: on to its loop, with the iterator or with what it gives as its own iterator -/
theorem comp_begin (K : Kept P) {g : Comprehension} (hg : (clausesOf e)[depth]? = some g) (sync : g.is_async = 0) (light : Light (.compStart e depth it acc env)) (same : ∀ (Q : Value → Shared → Prop), Q it s → wpAny (model prog w) A (pyIter it) Q (fun _ _ => False) s)
    (quiet : (Code.compLoop e depth it acc env).quiet = true) (h : codeP P (model prog w) A (.compLoop e depth it acc env) R s) : codeP P (model prog w) A (.compStart e depth it acc env) R s := by
  refine codeP_of_tree K ?_
  rw [Around.under_of_weight light.weight light.units]
  have tree : (model prog w).den (.compStart e depth it acc env) = (compStart e depth it acc env).onRaise _ := if_neg (Bool.eq_false_iff.mp light.frame)
  rw [tree]
  refine wpP_onRaise ?_
  have on : onP P (model prog w) A R (.again (.compLoop e depth it acc env)) s := ⟨quiet, rfl, h⟩
  unfold compStart
  simp only [hg, Option.elim_some, sync, bne_self_eq_false, Bool.false_eq_true, if_false]
  refine wpP_bindA (wpAny_askSetting ?_)
  split
  · exact wpP_bind (wpP_pure (wpP_pure on))
  · exact wpP_bindA (wpAny_rule (wpP_bind (wpP_standAt (wpP_bindA (same _ (wpP_pure on))))))
/-- the loop of one clause: each turn takes an item and comes back -/
theorem comp_turns (K : Kept P) {I : Addr} {fp wr : List Addr} {n : Nat} {Pv : Nat → Value → Prop} {St : Nat → Heap → Prop} {After : Value → (Shared → Prop) → Shared → Prop} (light : Light (.compLoop e depth (.ref I) acc env)) (quiet : (Code.compLoop e depth (.ref I) acc env).quiet = true)
    (opens : ∀ (Q : Fin → Shared → Prop) (t : Shared), wpAny (model prog w) A (pyNext (.ref I)) (fun r t' => r.elim (Q (.done .next) t') fun v => After v (Q (.again (.compLoop e depth (.ref I) acc env))) t') (fun _ _ => False) t → wpP P (model prog w) A (compTurn e depth (.ref I) acc env) Q (fun _ _ => False) t)
    (W : Walks prog w A I fp wr n Pv St) (J : Nat → Shared → Prop) (hJ : ∀ i s, J i s → St i s.heap)
    (turn : ∀ i s v h' tk, i < n → J i s → Pv i v → St (i + 1) h' → (∀ b o, b ∉ wr → s.heap.get? b = some o → h'.get? b = some o) →
      ∀ q : Shared → Prop, (∀ t, J (i + 1) t → q t) → After v q { s with heap := h', toks := tk })
    (done : ∀ s h' tk, J n s → (∀ b o, b ∉ wr → s.heap.get? b = some o → h'.get? b = some o) → R (.ok .next) { s with heap := h', toks := tk })
    (h0 : J 0 s) : codeP P (model prog w) A (.compLoop e depth (.ref I) acc env) R s := by
  have tree : (model prog w).den (.compLoop e depth (.ref I) acc env) = (compTurn e depth (.ref I) acc env).onRaise _ := if_neg (Bool.eq_false_iff.mp light.frame)
  refine codeP_loop K quiet rfl (fun k t => ∃ i ≤ n, i + k = n + 1 ∧ J i t) ?_ (n + 1) ⟨0, Nat.zero_le _, Nat.zero_add _, h0⟩
  rintro k t ⟨i, le, sum, hi⟩
  rw [Around.under_of_weight light.weight light.units, tree]
  refine wpP_onRaise (opens _ t ?_)
  rcases Nat.lt_or_ge i n with lt | ge
  · exact W.item i t _ _ lt (hJ _ _ hi) fun v h' tk hv st keep => turn i t v h' tk lt hi hv st keep _ fun t' hj => .inl ⟨rfl, k - 1, by omega, i + 1, lt, by omega, hj⟩
  · obtain rfl : i = n := Nat.le_antisymm le ge
    exact W.done t _ _ (hJ _ _ hi) fun h' tk keep => .inr (done t h' tk hi keep)
/-- what a turn leaves: the iterator as it was, something in the frame and in what is filled, and J of it -/
noncomputable def Left (h₀ : Heap) (L : Addr) (m : Str → Option Value) (s : Shared) (I : Addr) (oI : Obj) (C D : Addr) (J : (Str → Option Value) → Obj → List (Addr × Obj) → Prop) (t : Shared) : Prop :=
  ∃ mC oD nw, (∃ h tk, t = { s with heap := h, toks := tk }) ∧ (Fr h₀ L t.heap m ∧ t.heap.Ns C mC ∧ News h₀ L t.heap ((I, oI) :: (D, oD) :: nw)) ∧ Off3 I C D nw ∧ J mC oD nw
/-- as comp_turns, with the ledger: the iterator I, the block's frame C, what is filled D, some of the ledger's own (keep) that the source is -/
theorem comp_ledger (K : Kept P) {I C D : Addr} {keep : List (Addr × Obj)} {n : Nat} {Pv : Nat → Value → Prop} {St : Nat → Heap → Prop} {After : Value → (Shared → Prop) → Shared → Prop} (light : Light (.compLoop e depth (.ref I) acc env)) (quiet : (Code.compLoop e depth (.ref I) acc env).quiet = true)
    (opens : ∀ (Q : Fin → Shared → Prop) (t : Shared), wpAny (model prog w) A (pyNext (.ref I)) (fun r t' => r.elim (Q (.done .next) t') fun v => After v (Q (.again (.compLoop e depth (.ref I) acc env))) t') (fun _ _ => False) t → wpP P (model prog w) A (compTurn e depth (.ref I) acc env) Q (fun _ _ => False) t)
    (W : Walks prog w A I (I :: keep.map (·.1)) [I] n Pv St) (live : ∀ i h, St i h → ∃ o, h.get? I = some o) (ap : Apart h₀ L I C D) (hIL : L ≠ I) (hI₀ : h₀.get? I = none)
    (J : Nat → (Str → Option Value) → Obj → List (Addr × Obj) → Prop) (hkeep : ∀ i mC oD nw, J i mC oD nw → ∀ p ∈ keep, p ∈ nw)
    (turn : ∀ i v mC oD nw h₁ tk₁ oI, i < n → Pv i v → St (i + 1) h₁ → J i mC oD nw → Off3 I C D nw → Fr h₀ L h₁ m → h₁.Ns C mC → News h₀ L h₁ ((I, oI) :: (D, oD) :: nw) →
      ∀ q : Shared → Prop, (∀ t, Left h₀ L m s I oI C D (J (i + 1)) t → q t) → After v q { s with heap := h₁, toks := tk₁ })
    (done : ∀ h tk mC oD nw, Fr h₀ L h m → h.Ns C mC → News h₀ L h ((D, oD) :: nw) → Off3 I C D nw → J n mC oD nw → R (.ok .next) { s with heap := h, toks := tk })
    {mC : Str → Option Value} {oD : Obj} (hst : St 0 s.heap) (F : Fr h₀ L s.heap m) (hn : s.heap.Ns C mC) (N : News h₀ L s.heap ((D, oD) :: news)) (off : Off3 I C D news) (h0 : J 0 mC oD news) :
    codeP P (model prog w) A (.compLoop e depth (.ref I) acc env) R s := by
  -- a step of the iterator changes nothing of ours
  have step : ∀ {h h' : Heap} {mC oD nw}, (∀ b o, b ∉ [I] → h.get? b = some o → h'.get? b = some o) → Fr h₀ L h m → h.Ns C mC → News h₀ L h ((D, oD) :: nw) → Off3 I C D nw → Fr h₀ L h' m ∧ h'.Ns C mC ∧ News h₀ L h' ((D, oD) :: nw) := by
    intro h h' mC oD nw k F ns N off
    have k' : ∀ b o, b ≠ I → h.get? b = some o → h'.get? b = some o := fun b o ne => k b o (by simpa using ne)
    refine ⟨⟨F.ns.at' fun o e => k' _ o hIL e, fun b o e => k' b o (fun q => ?_) (F.keep b o e), F.above⟩, ns.at' fun o e => k' _ o (Ne.symm ap.ic) e, fun q hq => ⟨k' _ _ ?_ (N q hq).1, (N q hq).2⟩⟩
    · subst q; rw [hI₀] at e; cases e
    · rcases List.mem_cons.mp hq with rfl | hq
      · exact Ne.symm ap.id
      · exact (off q hq).1
  refine comp_turns K light quiet opens W
    (fun i t => ∃ mC oD nw, (∃ h tk, t = { s with heap := h, toks := tk }) ∧ St i t.heap ∧ (Fr h₀ L t.heap m ∧ t.heap.Ns C mC ∧ News h₀ L t.heap ((D, oD) :: nw)) ∧ Off3 I C D nw ∧ J i mC oD nw)
    (fun i t ⟨_, _, _, _, st, _⟩ => st) ?_ ?_ ⟨mC, oD, news, ⟨_, _, rfl⟩, hst, ⟨F, hn, N⟩, off, h0⟩
  · rintro i _ v h₂ tk₂ lt ⟨mC, oD, nw, ⟨h₁, tk₁, rfl⟩, st, ⟨F₁, ns₁, N₁⟩, off₁, hJ⟩ hv st₂ k
    obtain ⟨F₂, ns₂, N₂⟩ := step k F₁ ns₁ N₁ off₁
    obtain ⟨oI, hoI⟩ := live _ _ st₂
    refine fun q on => turn i v mC oD nw h₂ tk₂ oI lt hv st₂ hJ off₁ F₂ ns₂ ?_ q fun t left => on t ?_
    · intro q hq
      rcases List.mem_cons.mp hq with rfl | hq
      · exact ⟨hoI, Ne.symm hIL, hI₀⟩
      · exact N₂ q hq
    · obtain ⟨mC', oD', nw', put, ⟨F₃, ns₃, N₃⟩, off₃, hJ₃⟩ := left
      refine ⟨mC', oD', nw', put, W.frame _ _ _ st₂ fun b hb o e => ?_, ⟨F₃, ns₃, fun q hq => N₃ q (List.mem_cons_of_mem _ hq)⟩, off₃, hJ₃⟩
      -- the iterator and its source stand as they stood
      have found : ∀ q : Addr × Obj, h₂.get? q.1 = some q.2 → t.heap.get? q.1 = some q.2 → q.1 = b → t.heap.get? b = some o := by
        rintro q e₁ e₂ rfl
        rw [e₁] at e; cases e; exact e₂
      rcases List.mem_cons.mp hb with rfl | hb
      · exact found (b, oI) hoI (N₃ _ List.mem_cons_self).1 rfl
      · obtain ⟨q, hq, hqb⟩ := List.mem_map.mp hb
        exact found q (N₂ q (List.mem_cons_of_mem _ (hkeep _ _ _ _ hJ q hq))).1 (N₃ q (List.mem_cons_of_mem _ (List.mem_cons_of_mem _ (hkeep _ _ _ _ hJ₃ q hq)))).1 hqb
  · rintro _ h₂ tk₂ ⟨mC, oD, nw, ⟨h₁, tk₁, rfl⟩, st, ⟨F₁, ns₁, N₁⟩, off₁, hJ⟩ k
    obtain ⟨F₂, ns₂, N₂⟩ := step k F₁ ns₁ N₁ off₁
    exact done h₂ tk₂ mC oD nw F₂ ns₂ N₂ off₁ hJ
/-- the block is opened: what it fills is one new object o, its frame another -/
theorem open_block (K : Kept P) {use : Option (Value → Sem Unit)} {Q : Value → Shared → Prop} {scope : Scope} {cl : List (Str × Addr)} {newAcc : Sem Value} {o : Obj} {I : Addr} {fp : List Addr} {n : Nat} {Pv : Nat → Value → Prop} {St : Nat → Heap → Prop} {g : Comprehension} {gs : List Comprehension}
    (made : ∀ (Q' : Value → Shared → Prop), Q' (.ref s.heap.objs.size) { s with heap := s.heap.push o } → wpAny (model prog w) A newAcc Q' E s) (hlive : o.isFreed = false)
    (hg : clausesOf e = g :: gs) (sync : g.is_async = 0) (light : ∀ C D, Light (.compStart e 0 (.ref I) (.ref D) (compEnvC scope cl C env))) (quiet : ∀ C D, (Code.compLoop e 0 (.ref I) (.ref D) (compEnvC scope cl C env)).quiet = true)
    (W : Walks prog w A I fp [I] n Pv St) (live : ∀ i h, St i h → ∃ o, h.get? I = some o) (hcell : ∀ y ∈ scope.names, y.2 ≠ .cell) (hkind : scope.kind = .function) (hst : St 0 s.heap)
    (F : Fr h₀ L s.heap m) (N : News h₀ L s.heap news) (off : ∀ p ∈ news, p.1 ≠ I)
    (k : ∀ C D h₁ tk₁ mC, Apart h₀ L I C D → St 0 h₁ → Fr h₀ L h₁ m → h₁.Ns C mC → News h₀ L h₁ ((D, o) :: news) → Off3 I C D news →
      codeP P (model prog w) A (.compLoop e 0 (.ref I) (.ref D) (compEnvC scope cl C env)) (fun r t => (∃ f, r = .ok f) ∧ CAsk (model prog w) A E use Q (.ref D) C t) { s with heap := h₁, toks := tk₁ }) :
    Block P (model prog w) A E use Q e scope cl env newAcc (.ref I) s := by
  have grown : ∀ b ob, s.heap.get? b = some ob → (s.heap.push o).get? b = some ob := fun b ob e => Heap.get?_push_of_some _ e
  have next : (s.heap.push o).objs.size = s.heap.objs.size + 1 := Heap.size_push ..
  refine made _ (wpAny_newFunctionEnv hcell (fun _ no => nomatch no) (fun h₁ ns₁ only => ?_) hkind)
  dsimp only at ns₁ only ⊢
  -- D is the first address that was free, C the one behind it
  generalize hD : s.heap.objs.size = D at next
  generalize hC : (s.heap.push o).objs.size = C at next ns₁ only
  have nC : @Eq Nat C (D + 1) := next
  have under : ∀ b ob, s.heap.get? b = some ob → @LT.lt Nat _ b D := fun b ob e => hD ▸ Heap.lt_size e
  have old : ∀ b ob, s.heap.get? b = some ob → h₁.get? b = some ob := fun b ob e => only.extBut b ob (by have := under b ob e; show @Ne Nat b C; omega) (Heap.get?_push_of_some _ (grown b ob e))
  have none₀ : ∀ a : Addr, @LE.le Nat _ D a → h₀.get? a = none := fun a ge => by
    rcases q : h₀.get? a with _ | ob
    · rfl
    · exact absurd (under a ob (F.keep a ob q)) (Nat.not_lt.mpr ge)
  have accAt : h₁.get? D = some o := only.extBut D o (by show @Ne Nat D C; omega) (Heap.get?_push_of_some _ (hD ▸ Heap.get?_push_size _ hlive))
  obtain ⟨oI, hoI⟩ := live _ _ hst
  have ltI := under _ _ hoI
  have ltL : @LT.lt Nat _ L D := hD ▸ F.ns.lt
  have ap : Apart h₀ L I C D := by
    refine { ic := ?_, id := ?_, cd := ?_, cl := ?_, dl := ?_, c0 := none₀ C ?_, d0 := none₀ D (Nat.le_refl _) }
    · show @Ne Nat I C; omega
    · show @Ne Nat I D; omega
    · show @Ne Nat C D; omega
    · show @Ne Nat C L; omega
    · show @Ne Nat D L; omega
    · omega
  have st₁ : St 0 h₁ := W.frame _ _ _ hst fun b _ ob e => old b ob e
  have offs : Off3 I C D news := fun p hp => by
    have lt := under _ _ (N p hp).1
    refine ⟨off p hp, ?_, ?_⟩
    · show @Ne Nat p.1 C; omega
    · show @Ne Nat p.1 D; omega
  have loop := k C D h₁ (s.toks + ([] : List (Str × Value)).length) _ ap st₁ (F.keeps old) ns₁ (fun p hp => by
    rcases List.mem_cons.mp hp with rfl | hp
    · exact ⟨accAt, ap.dl, ap.d0⟩
    · exact ⟨old _ _ (N p hp).1, (N p hp).2⟩) offs
  exact comp_begin K (by rw [hg]; rfl) sync (light C D) (fun Q q => W.self 0 { s with heap := h₁, toks := _ } Q _ st₁ q) (quiet C D) loop
end
end Mine
end
section
open PySem PySem.W PyProof.Rows PySem.Calls
set_option maxRecDepth 100000
namespace Mine
/-- a clause's tests, until one is not met -/
noncomputable def TestsOf : List Expr → Env → Sem Bool
  | [], _ => pure true
  | c :: cs, env => isTrue c env (eval c env) >>= fun ok => if ok then TestsOf cs env else pure false
/-- one step of a loop that asks f only as long as its flag stands -/
noncomputable abbrev askOn (f : Expr → Sem Bool) (c : Expr) (flag : Bool) : Sem (ForInStep Bool) :=
  if flag = true then f c >>= fun met => pure (.yield met) else pure (.yield flag)
/-- once the flag is down, nothing is asked any more -/
theorem flag_down (f : Expr → Sem Bool) : ∀ cs : List Expr, forIn cs false (askOn f) = pure false
  | [] => rfl
  | _ :: cs => by
    rw [List.forIn_cons, askOn, if_neg (by decide), pure_bind]
    exact flag_down f cs
/-- so such a loop is the chain of its questions -/
theorem flag_up (env : Env) : ∀ cs : List Expr, forIn cs true (askOn fun c => isTrue c env (eval c env)) = TestsOf cs env
  | [] => rfl
  | c :: cs => by
    rw [List.forIn_cons, askOn, if_pos rfl, bind_assoc, TestsOf]
    congr 1
    funext met
    rw [pure_bind]
    cases met
    · exact flag_down _ cs
    · exact flag_up env cs
section
variable {P : Ctx → Prop} {prog : Program} {w : World} {A : Around} {E : Value → Shared → Prop} {s : Shared} {env : Env} {h₀ : Heap} {L : Addr} {m : Str → Option Value} {news : List (Addr × Obj)} {elt iter : Expr} {ifs : List Expr} {x : Str} {px : Pos} {scope : Scope} {cl : List (Str × Addr)} {pos : Pos} {use : Option (Value → Sem Unit)} {Q : Value → Shared → Prop}
/-- what is asked of an item that a clause takes -/
noncomputable def Taken (P : Ctx → Prop) (prog : Program) (w : World) (A : Around) (target : Expr) (ifs : List Expr) (emit : Sem Unit) (env : Env) (it v : Value) (q : Shared → Prop) : Shared → Prop :=
  wpAny (model prog w) A (letOwnedTupleGo target it v) (fun _ => wpAny (model prog w) A (assign target env v) (fun _ => wpP P (model prog w) A (TestsOf ifs env) (fun ok t => if ok = true then wpP P (model prog w) A emit (fun _ => q) (fun _ _ => False) t else q t) fun _ _ => False) fun _ _ => False) fun _ _ => False
/-- the turn of the last clause of a list comprehension -/
theorem list_opens {gens : List Comprehension} {depth : Nat} {target : Expr} {I : Addr} {acc : Value} (hg : gens[depth]? = some ⟨target, iter, ifs, 0⟩) (last : gens[depth + 1]? = none) (Q : Fin → Shared → Prop) (t : Shared)
    (h : wpAny (model prog w) A (pyNext (.ref I)) (fun r t' => r.elim (Q (.done .next) t') fun v => Taken P prog w A target ifs (do let _ ← call (.builtin "list.append") [acc, ← eval elt env]) env (.ref I) v (Q (.again (.compLoop (.ListComp elt gens scope pos) depth (.ref I) acc env))) t') (fun _ _ => False) t) :
    wpP P (model prog w) A (compTurn (.ListComp elt gens scope pos) depth (.ref I) acc env) Q (fun _ _ => False) t := by
  unfold compTurn
  simp only [hg, last, bne_self_eq_false, Bool.false_eq_true, if_false]
  refine wpP_bind (wpP_standAt (wpP_bindA (wpAny_mono h ?_ fun _ _ e => e)))
  rintro (_ | v) t' q
  · exact wpP_pure q
  refine wpP_bindA (wpAny_mono q ?_ fun _ _ e => e)
  intro _ t₁ q₁
  refine wpP_bindA (wpAny_mono q₁ ?_ fun _ _ e => e)
  intro _ t₂ q₂
  rw [← flag_up] at q₂
  refine wpP_bind (wpP_mono q₂ ?_ fun _ _ e => e)
  rintro (_ | _) t₃ q₃
  · exact wpP_pure q₃
  · exact wpP_bind (wpP_mono q₃ (fun _ _ q₄ => wpP_pure q₄) fun _ _ e => e)
/-- what an element leaves: the iterator, the frame, the list as they stood, and J of the rest -/
noncomputable def CEnd (h₀ : Heap) (L : Addr) (m : Str → Option Value) (s : Shared) (I : Addr) (oI : Obj) (C : Addr) (oC : Obj) (D : Addr) (ys : List Value) (J : Value → List (Addr × Obj) → Prop) (y : Value) : Shared → Prop :=
  UnrEndW h₀ L s [(I, oI), (C, oC), (D, lstN ys)] fun m' nw => m' = m ∧ J y nw
variable {I C D : Addr} {oI oC : Obj} {ys : List Value} {J : Value → List (Addr × Obj) → Prop} {y : Value}
theorem CEnd.intro {h' : Heap} {tk' : Nat} {all : List (Addr × Obj)} (news' : List (Addr × Obj)) (F : Fr h₀ L h' m) (N : News h₀ L h' all) (sub : ∀ p ∈ (I, oI) :: (C, oC) :: (D, lstN ys) :: news', p ∈ all) (off : Off3 I C D news') (hJ : J y news') :
    CEnd h₀ L m s I oI C oC D ys J y { s with heap := h', toks := tk' } := by
  refine ⟨h', tk', m, news', rfl, F, fun p hp => N p (sub p hp), fun p hp q hq => ?_, rfl, hJ⟩
  obtain ⟨a, b, c⟩ := off p hp
  simp only [List.mem_cons, List.not_mem_nil, or_false] at hq
  rcases hq with rfl | rfl | rfl <;> assumption
theorem CEnd.open {t : Shared} (e : CEnd h₀ L m s I oI C oC D ys J y t) :
    ∃ h tk nw, t = { s with heap := h, toks := tk } ∧ Fr h₀ L h m ∧ News h₀ L h ((I, oI) :: (C, oC) :: (D, lstN ys) :: nw) ∧ Off3 I C D nw ∧ J y nw := by
  obtain ⟨h, tk, _, nw, put, F, N, off, rfl, hJ⟩ := e
  exact ⟨h, tk, nw, put, F, N, fun p hp => ⟨off p hp _ (.head _), off p hp _ (.tail _ (.head _)), off p hp _ (.tail _ (.tail _ (.head _)))⟩, hJ⟩
theorem CEnd.mono {J' : Value → List (Addr × Obj) → Prop} {t : Shared} (e : CEnd h₀ L m s I oI C oC D ys J y t) (k : ∀ nw, J y nw → J' y nw) : CEnd h₀ L m s I oI C oC D ys J' y t := by
  obtain ⟨h, tk, nw, rfl, F, N, off, hJ⟩ := e.open
  exact .intro nw F N (fun _ hp => hp) off (k nw hJ)
/-- one turn: the test, the element -/
abbrev CTurn (P : Ctx → Prop) (prog : Program) (w : World) (A : Around) (cenv : Env) (elt : Expr) (ifs : List Expr) (h₀ : Heap) (L : Addr) (m : Str → Option Value) (s : Shared) (I : Addr) (oI : Obj) (C : Addr) (oC : Obj) (D : Addr) (ys : List Value) (J : List Value → List (Addr × Obj) → Prop) (s₂ : Shared) : Prop :=
  wpP P (model prog w) A (TestsOf ifs cenv) (fun ok s₃ => if ok = true then
      wpP P (model prog w) A (eval elt cenv) (CEnd h₀ L m s I oI C oC D ys (fun y news' => J (ys ++ [y]) news')) (fun _ _ => False) s₃
    else CEnd h₀ L m s I oI C oC D ys (fun _ news' => J ys news') .none s₃) (fun _ _ => False) s₂
theorem Tests_nil {cenv : Env} {M : Model} {Q : Bool → Shared → Prop} (h : Q true s) : wpP P M A (TestsOf [] cenv) Q E s := wpP_pure h
theorem Tests_one {cenv : Env} {c : Expr} {Q : Bool → Shared → Prop} (h : wpP P (model prog w) A (isTrue c cenv (eval c cenv)) Q E s) : wpP P (model prog w) A (TestsOf [c] cenv) Q E s := by
  refine wpP_bind (wpP_mono h ?_ fun _ _ e => e)
  rintro (_ | _) t q <;> exact wpP_pure q
/-- what a clause's turn does to the ledger, the list's own row written as its values -/
noncomputable def OfList (J : (Str → Option Value) → List Value → List (Addr × Obj) → Prop) (mC : Str → Option Value) (oD : Obj) (nw : List (Addr × Obj)) : Prop := ∃ ys, oD = lstN ys ∧ J mC ys nw
/-- the element goes to the list's end -/
theorem emit_list {cenv : Env} {b : Shared} {mC : Str → Option Value} {J : (Str → Option Value) → List Value → List (Addr × Obj) → Prop} {q : Shared → Prop} (id : I ≠ D) (cd : C ≠ D) (hoC : LCg.NsObj oC mC) (hlen : ys.length ≤ 1000000)
    (on : ∀ t, Left h₀ L m b I oI C D (OfList J) t → q t) (h : wpP P (model prog w) A (eval elt cenv) (CEnd h₀ L m b I oI C oC D ys (fun y nw => J mC (ys ++ [y]) nw)) (fun _ _ => False) s) :
    wpP P (model prog w) A (do let _ ← call (.builtin "list.append") [.ref D, ← eval elt cenv]) (fun _ => q) (fun _ _ => False) s := by
  refine wpP_bind (wpP_mono h ?_ fun _ _ e => e)
  rintro y _ e
  obtain ⟨h₁, tk, nw, rfl, F, N, off, hJ⟩ := e.open
  have ahead : ∀ p ∈ [(I, oI), (C, oC)], p.1 ≠ D := by
    intro p hp
    simp only [List.mem_cons, List.not_mem_nil, or_false] at hp
    rcases hp with rfl | rfl <;> assumption
  refine wpP_bindA (append_L (pre := [(I, oI), (C, oC)]) (post := nw) F N ahead (fun p hp => (off p hp).2.2) (fun h₂ F₂ N₂ => wpP_pure (on _ ?_)) hlen)
  have row : listOf (ys ++ [y]).toArray (ys.length + 1) = lstN (ys ++ [y]) := by simp [lstN]
  rw [row] at N₂
  refine ⟨mC, lstN (ys ++ [y]), nw, ⟨_, _, rfl⟩, ⟨F₂, hoC.ns (N₂ (C, oC) (.tail _ (.head _))).1, fun p hp => N₂ p ?_⟩, off, _, rfl, hJ⟩
  rcases List.mem_cons.mp hp with rfl | hp
  · exact .head _
  · exact .tail _ (.tail _ hp)
/-- a turn that CTurn tells of, as the loop asks it: behind the target -/
theorem CTurn.left {cenv : Env} {b : Shared} {mC : Str → Option Value} {J : List Value → List (Addr × Obj) → Prop} {q : Shared → Prop} (id : I ≠ D) (cd : C ≠ D) (hoC : LCg.NsObj oC mC) (hlen : ys.length ≤ 1000000)
    (on : ∀ t, Left h₀ L m b I oI C D (OfList fun _ => J) t → q t) (h : CTurn P prog w A cenv elt ifs h₀ L m b I oI C oC D ys J s) :
    wpP P (model prog w) A (TestsOf ifs cenv) (fun ok t => if ok = true then wpP P (model prog w) A (do let _ ← call (.builtin "list.append") [.ref D, ← eval elt cenv]) (fun _ => q) (fun _ _ => False) t else q t) (fun _ _ => False) s := by
  refine wpP_mono h ?_ fun _ _ e => e
  rintro (_ | _) t e
  · rw [if_neg (by decide)] at e ⊢
    obtain ⟨h₁, tk, nw, rfl, F, N, off, hJ⟩ := CEnd.open e
    refine on _ ⟨mC, lstN ys, nw, ⟨_, _, rfl⟩, ⟨F, hoC.ns (N (C, oC) (.tail _ (.head _))).1, fun p hp => N p ?_⟩, off, ys, rfl, hJ⟩
    rcases List.mem_cons.mp hp with rfl | hp
    · exact .head _
    · exact .tail _ (.tail _ hp)
  · rw [if_pos rfl] at e ⊢
    exact emit_list (J := fun _ => J) id cd hoC hlen on e
/-- one turn of a comprehension, from what the ledger is -/
abbrev CStep (P : Ctx → Prop) (prog : Program) (w : World) (A : Around) (env : Env) (elt : Expr) (ifs : List Expr) (x : Str) (scope : Scope) (cl : List (Str × Addr)) (h₀ : Heap) (L : Addr) (m : Str → Option Value) (s : Shared) (v : Value) (ys : List Value) (news₁ : List (Addr × Obj)) (J : List Value → List (Addr × Obj) → Prop) : Prop :=
  ∀ h₁ tk₁ I oI C oC D m₂, Off3 I C D news₁ → (@Ne Nat I C ∧ @Ne Nat I D ∧ @Ne Nat C D) → LCg.NsObj oC m₂ → m₂ x = some v → Fr h₀ L h₁ m → News h₀ L h₁ ((I, oI) :: (C, oC) :: (D, lstN ys) :: news₁) →
    CTurn P prog w A (compEnvC scope cl C env) elt ifs h₀ L m s I oI C oC D ys J { s with heap := h₁, toks := tk₁ }
/-- what is left of a comprehension when its source has been evaluated -/
noncomputable def CGoal (P : Ctx → Prop) (prog : Program) (w : World) (A : Around) (E : Value → Shared → Prop) (use : Option (Value → Sem Unit)) (Q : Value → Shared → Prop) (e : Expr) (scope : Scope) (cl : List (Str × Addr)) (env : Env) (xv : Value) : Shared → Prop :=
  wpAny (model prog w) A (pyIter xv) (Block P (model prog w) A E use Q e scope cl env (newList [])) E
/-- where the list goes -/
noncomputable def CFin (M : Model) (A : Around) (E : Value → Shared → Prop) (use : Option (Value → Sem Unit)) (Q : Value → Shared → Prop) (h₀ : Heap) (L : Addr) (m : Str → Option Value) (s : Shared) (ys : List Value) (news : List (Addr × Obj)) : Prop :=
  ∀ C D h tk mC, (C ≠ D ∧ C ≠ L ∧ D ≠ L ∧ h₀.get? C = none ∧ h₀.get? D = none) → Fr h₀ L h m → News h₀ L h ((D, lstN ys) :: news) → (∀ p ∈ news, p.1 ≠ D ∧ p.1 ≠ C) → h.Ns C mC → CAsk M A E use Q (.ref D) C { s with heap := h, toks := tk }
/-- the frame goes: what stands beside it stays -/
theorem freed_of {t : Shared} {mC : Str → Option Value} {rows : List (Addr × Obj)} {q : Shared → Prop} (cl : C ≠ L) (c0 : h₀.get? C = none) (F : Fr h₀ L t.heap m) (N : News h₀ L t.heap rows) (off : ∀ p ∈ rows, p.1 ≠ C) (ns : t.heap.Ns C mC)
    (h : ∀ h', Fr h₀ L h' m → News h₀ L h' rows → q { t with heap := h' }) : Freed C q t :=
  ⟨mC, ns, fun h' only => h h' (F.change only cl c0) fun p hp => ⟨only.extBut _ _ (off p hp) (N p hp).1, (N p hp).2⟩⟩
theorem CFin.eval {M : Model} (h : ∀ D h tk, Fr h₀ L h m → News h₀ L h ((D, lstN ys) :: news) → (∀ p ∈ news, p.1 ≠ D) → Q (.ref D) { s with heap := h, toks := tk }) : CFin M A E none Q h₀ L m s ys news := by
  rintro C D g tk mC ⟨cd, cl, dl, c0, d0⟩ F N off ns
  exact freed_of cl c0 F N (fun p hp => (List.mem_cons.mp hp).elim (fun e => e ▸ Ne.symm cd) fun hp => (off p hp).2) ns fun h' F' N' => h D h' tk F' N' fun p hp => (off p hp).1
theorem CFin.assignQ {M : Model} {z : Str} {pz : Pos} (hLe : env.locals = L) (hz : env.kindOf z = some .local) (hp : (env.scope.kind == .class || (env.scope.kind == .module && env.locals != env.globals)) = false)
    (h : ∀ D h tk, Fr h₀ L h (fun n => if n = z then some (.ref D) else m n) → News h₀ L h ((D, lstN ys) :: news) → (∀ p ∈ news, p.1 ≠ D) → Q .none { s with heap := h, toks := tk }) : CFin M A E (some (PySem.assign (Expr.Name z pz) env)) Q h₀ L m s ys news := by
  subst hLe
  rintro C D g tk mC ⟨cd, cl, dl, c0, d0⟩ F N off ns
  refine wpAny_assign_Name (wpAny_storeName_local hz F.ns (fun h₂ ns₂ only => ?_) hp)
  exact freed_of cl c0 (F.set ns₂ only) (N.set only) (fun p hp => (List.mem_cons.mp hp).elim (fun e => e ▸ Ne.symm cd) fun hp => (off p hp).2) (ns.sameBut only cl) fun h' F' N' => h D h' _ F' N' fun p hp => (off p hp).1
theorem eval_LC (K : Kept P) (hclos : closureFor scope env = pure cl) (hkind : scope.kind = .function) (hnames : ∀ x ∈ scope.names, x.2 = .local → scope.names.lookup x.1 = some .local)
    (h : wpP P (model prog w) A (eval iter env) (CGoal P prog w A E none Q (.ListComp elt [⟨.Name x px, iter, ifs, 0⟩] scope pos) scope cl env) E s)
    (hs : ∀ x, foldedSetIterable iter env x = pure x := by intro _; rfl) :
    wpP P (model prog w) A (eval (.ListComp elt [⟨.Name x px, iter, ifs, 0⟩] scope pos) env) Q E s := by
  rw [eval_ListComp]
  exact compP K rfl hs hclos hkind hnames h
theorem Assign_LC (K : Kept P) {z : Str} {pz spos : Pos} {QF : Flow → Shared → Prop}
    (hsw : swapsWith (.ListComp elt [⟨.Name x px, iter, ifs, 0⟩] scope pos) (some (.Name z pz)) spos.line env = pure true)
    (hclos : closureFor scope env = pure cl) (hkind : scope.kind = .function) (hnames : ∀ x ∈ scope.names, x.2 = .local → scope.names.lookup x.1 = some .local)
    (h : wpP P (model prog w) A (eval iter env) (CGoal P prog w A E (some (assign (.Name z pz) env)) (fun _ s' => QF .next s') (.ListComp elt [⟨.Name x px, iter, ifs, 0⟩] scope pos) scope cl env) E s)
    (hs : ∀ x, foldedSetIterable iter env x = pure x := by intro _; rfl) :
    wpP P (model prog w) A (exec (.Assign [.Name z pz] (.ListComp elt [⟨.Name x px, iter, ifs, 0⟩] scope pos) spos) env) QF E s := by
  rw [exec_Assign_Name_used _ _ _ _ hsw]
  exact wpP_bind (wpP_standAt (wpP_bind (wpP_bind (wpP_mono (compP (first := eval iter env) K rfl hs hclos hkind hnames h) (fun _ _ q => wpP_pure (wpP_pure q)) fun _ _ e => e))))
/-- over a source whose iterator is one new object -/
theorem comp_new (K : Kept P) {xv : Value} {o : Obj} {keep : List (Addr × Obj)} {n : Nat} {Pv : Nat → Value → Prop} {St : Nat → Heap → Prop} (F : Fr h₀ L s.heap m) (N : News h₀ L s.heap news) (hcell : ∀ y ∈ scope.names, y.2 ≠ .cell) (hkind : scope.kind = .function) (hx : scope.names.lookup x = some .local)
    (opens : ∀ (Q' : Value → Shared → Prop), Q' (.ref s.heap.objs.size) { s with heap := s.heap.push o } → wpAny (model prog w) A (pyIter xv) Q' E s)
    (W : Walks prog w A s.heap.objs.size (s.heap.objs.size :: keep.map (·.1)) [s.heap.objs.size] n Pv St) (live : ∀ i h, St i h → ∃ o, h.get? s.heap.objs.size = some o) (hst : St 0 (s.heap.push o)) (hsz : n ≤ 1000000)
    (J : Nat → List Value → List (Addr × Obj) → Prop) (hkeep : ∀ i ys nw, J i ys nw → ∀ p ∈ keep, p ∈ nw) (hlen : ∀ i ys nw, J i ys nw → ys.length ≤ i) (h0 : J 0 [] news)
    (turn : ∀ i v ys nw, i < n → Pv i v → J i ys nw → CStep P prog w A env elt ifs x scope cl h₀ L m s v ys nw (J (i + 1)))
    (fin : ∀ ys nw, J n ys nw → CFin (model prog w) A E use Q h₀ L m s ys nw) : CGoal P prog w A E use Q (.ListComp elt [⟨.Name x px, iter, ifs, 0⟩] scope pos) scope cl env xv s := by
  have grown : ∀ b ob, s.heap.get? b = some ob → (s.heap.push o).get? b = some ob := fun b ob e => Heap.get?_push_of_some _ e
  have new := fresh_I F
  refine opens _ (open_block (s := { s with heap := s.heap.push o }) K (o := lstN []) (gs := []) (fun _ q => wpAny_newObj_type q) rfl rfl rfl (fun _ _ => ⟨rfl, rfl, rfl⟩) (fun _ _ => rfl) W live hcell hkind hst (F.keeps grown) (N.grown grown)
    (fun p hp => Nat.ne_of_lt (Heap.lt_size (N p hp).1)) ?_)
  intro C D h₁ tk₁ mC ap st₁ F₁ ns₁ N₁ off₁
  refine comp_ledger (s := { s with heap := h₁, toks := tk₁ }) K ⟨rfl, rfl, rfl⟩ rfl (list_opens rfl rfl) W live ap new.1 new.2 (fun i => OfList fun _ => J i) (fun i mC oD nw ⟨ys, _, hJ⟩ => hkeep i ys nw hJ) ?_ ?_ st₁ F₁ ns₁ N₁ off₁ ⟨[], rfl, h0⟩
  · rintro i v mC _ nw h₂ tk₂ oI lt hv st₂ ⟨ys, rfl, hJ⟩ off₂ F₂ ns₂ N₂ q on
    refine wpAny_pure (wpAny_assign_Name (wpAny_storeName_local (lookup_relabel_local hx) ns₂ (fun h₃ ns₃ only => ?_) (by simp [compEnvC, relabel, hkind])))
    obtain ⟨oC, at_, hoC⟩ := LCg.ns_obj ns₃
    have F₃ : Fr h₀ L h₃ m := F₂.change only ap.cl ap.c0
    have beside : ∀ p ∈ (s.heap.objs.size, oI) :: (D, lstN ys) :: nw, p.1 ≠ C := fun p hp => by
      rcases List.mem_cons.mp hp with rfl | hp
      · exact ap.ic
      · rcases List.mem_cons.mp hp with rfl | hp
        · exact Ne.symm ap.cd
        · exact (off₂ p hp).2.1
    have N₃ : News h₀ L h₃ ((s.heap.objs.size, oI) :: (C, oC) :: (D, lstN ys) :: nw) := fun p hp => by
      have still : ∀ p ∈ (s.heap.objs.size, oI) :: (D, lstN ys) :: nw, h₃.get? p.1 = some p.2 ∧ p.1 ≠ L ∧ h₀.get? p.1 = none := fun p hp => ⟨only.extBut _ _ (beside p hp) (N₂ p hp).1, (N₂ p hp).2⟩
      rcases List.mem_cons.mp hp with rfl | hp
      · exact still _ (.head _)
      · rcases List.mem_cons.mp hp with rfl | hp
        · exact ⟨at_, ap.cl, ap.c0⟩
        · exact still p (.tail _ hp)
    have below := hlen i ys nw hJ
    exact CTurn.left (b := { s with heap := h₁, toks := tk₁ }) ap.id ap.cd hoC (by omega) on (turn i v ys nw lt hv hJ h₃ _ _ oI C oC D _ off₂ ⟨ap.ic, ap.id, ap.cd⟩ hoC (by simp) F₃ N₃)
  · rintro h tk mC _ nw F' ns' N' off' ⟨ys, rfl, hJ⟩
    exact ⟨⟨_, rfl⟩, fin ys nw hJ C D h tk mC ⟨ap.cd, ap.cl, ap.dl, ap.c0, ap.d0⟩ F' N' (fun p hp => ⟨(off' p hp).2.2, (off' p hp).2.1⟩) ns'⟩
theorem comp_lst (K : Kept P) {a : Addr} {vs : List Value} {k : Nat} (hh : A.handled = none) (hcell : ∀ y ∈ scope.names, y.2 ≠ .cell) (hkind : scope.kind = .function) (hx : scope.names.lookup x = some .local)
    (F : Fr h₀ L s.heap m) (N : News h₀ L s.heap news) (hm : (a, lstObj vs k) ∈ news) (hsz : vs.length ≤ 1000000)
    (J : Nat → List Value → List (Addr × Obj) → Prop) (hkeep : ∀ i ys nw, J i ys nw → (a, lstObj vs k) ∈ nw) (hlen : ∀ i ys nw, J i ys nw → ys.length ≤ i) (h0 : J 0 [] news)
    (turn : ∀ i v ys news₁, vs[i]? = some v → J i ys news₁ → CStep P prog w A env elt ifs x scope cl h₀ L m s v ys news₁ (J (i + 1)))
    (fin : ∀ ys news', J vs.length ys news' → CFin (model prog w) A E use Q h₀ L m s ys news') :
    CGoal P prog w A E use Q (.ListComp elt [⟨.Name x px, iter, ifs, 0⟩] scope pos) scope cl env (.ref a) s := by
  have lst : s.heap.IsList a vs.toArray := ⟨_, (N _ hm).1, rfl, _, rfl⟩
  have each : ∀ {i : Nat} {v : Value}, vs.toArray[i]? = some v → vs[i]? = some v := fun e => by simpa using e
  refine comp_new K (keep := [(a, lstObj vs k)]) F N hcell hkind hx (fun _ q => wpAny_pyIter_list lst q) (Walks.list hh _ a (Nat.ne_of_lt (Heap.lt_size (N _ hm).1)) vs.toArray) (fun i h st => st.1.imp fun _ e => e.1)
    ⟨⟨_, Heap.get?_push_size _ rfl, rfl, rfl⟩, lst.at fun o e => Heap.get?_push_of_some _ e⟩ (by simpa using hsz) J (fun i ys nw q p hp => List.mem_singleton.mp hp ▸ hkeep i ys nw q) hlen h0
    (fun i v ys nw _ hv q => turn i v ys nw (each hv) q) fun ys nw q => fin ys nw (by simpa using q)
theorem comp_tup (K : Kept P) {a : Addr} {vs : List Value} {k : Nat} (hh : A.handled = none) (hcell : ∀ y ∈ scope.names, y.2 ≠ .cell) (hkind : scope.kind = .function) (hx : scope.names.lookup x = some .local)
    (F : Fr h₀ L s.heap m) (N : News h₀ L s.heap news) (hm : (a, tupObj vs k) ∈ news) (hsz : vs.length ≤ 1000000)
    (J : Nat → List Value → List (Addr × Obj) → Prop) (hkeep : ∀ i ys nw, J i ys nw → (a, tupObj vs k) ∈ nw) (hlen : ∀ i ys nw, J i ys nw → ys.length ≤ i) (h0 : J 0 [] news)
    (turn : ∀ i v ys news₁, vs[i]? = some v → J i ys news₁ → CStep P prog w A env elt ifs x scope cl h₀ L m s v ys news₁ (J (i + 1)))
    (fin : ∀ ys news', J vs.length ys news' → CFin (model prog w) A E use Q h₀ L m s ys news') :
    CGoal P prog w A E use Q (.ListComp elt [⟨.Name x px, iter, ifs, 0⟩] scope pos) scope cl env (.ref a) s := by
  have tup : s.heap.IsTuple a vs.toArray := ⟨_, (N _ hm).1, rfl, _, rfl⟩
  have each : ∀ {i : Nat} {v : Value}, vs.toArray[i]? = some v → vs[i]? = some v := fun e => by simpa using e
  refine comp_new K (keep := [(a, tupObj vs k)]) F N hcell hkind hx (fun _ q => wpAny_pyIter_tuple tup q) (Walks.tuple hh _ a (Nat.ne_of_lt (Heap.lt_size (N _ hm).1)) vs.toArray) (fun i h st => st.1.imp fun _ e => e.1)
    ⟨⟨_, Heap.get?_push_size _ rfl, rfl, rfl⟩, tup.at fun o e => Heap.get?_push_of_some _ e⟩ (by simpa using hsz) J (fun i ys nw q p hp => List.mem_singleton.mp hp ▸ hkeep i ys nw q) hlen h0
    (fun i v ys nw _ hv q => turn i v ys nw (each hv) q) fun ys nw q => fin ys nw (by simpa using q)
theorem comp_rng (K : Kept P) {a b c : Int} {r : Addr} {t u v : Tok} {n : Nat} (hh : A.handled = none) (hcell : ∀ y ∈ scope.names, y.2 ≠ .cell) (hkind : scope.kind = .function) (hx : scope.names.lookup x = some .local)
    (hsm : Builtin.Range.small a b c = true) (hn : Builtin.Range.rangeSize a b c = (n : Int)) (hr : IsRange s.heap r a b c t u v)
    (F : Fr h₀ L s.heap m) (N : News h₀ L s.heap news) (hsz : n ≤ 1000000)
    (J : Nat → List Value → List (Addr × Obj) → Prop) (hlen : ∀ i ys nw, J i ys nw → ys.length ≤ i) (h0 : J 0 [] news)
    (turn : ∀ i t ys news₁, i < n → J i ys news₁ → CStep P prog w A env elt ifs x scope cl h₀ L m s (.int (a + i * c) t) ys news₁ (J (i + 1)))
    (fin : ∀ ys news', J n ys news' → CFin (model prog w) A E use Q h₀ L m s ys news') :
    CGoal P prog w A E use Q (.ListComp elt [⟨.Name x px, iter, ifs, 0⟩] scope pos) scope cl env (.ref r) s := by
  refine comp_new K (keep := []) F N hcell hkind hx (fun _ q => wpAny_pyIter_range hr hsm q) (Walks.range hh _ a c n) (fun i h st => ⟨_, st⟩) ?_ hsz J (fun _ _ _ _ _ no => nomatch no) hlen h0 ?_ fin
  · show IsRangeIter _ _ _ _ _
    rw [hn]
    simpa using Heap.get?_push_size _ rfl
  · rintro i _ ys nw lt ⟨t, rfl⟩ q
    exact turn i t ys nw lt q
end
end Mine
end
section
open PySem PySem.W PyProof.Rows PySem.Calls
set_option maxRecDepth 100000
namespace Mine
theorem CEnd.intro0 {h₀ : Heap} {L : Addr} {m : Str → Option Value} {s : Shared} {I : Addr} {oI : Obj} {C : Addr} {oC : Obj} {D : Addr} {ys : List Value} {J : Value → List (Addr × Obj) → Prop} {y : Value} {h' : Heap} {tk' : Nat} {nw : List (Addr × Obj)}
    (F : Fr h₀ L h' m) (N : News h₀ L h' ((I, oI) :: (C, oC) :: (D, lstN ys) :: nw)) (off : Off3 I C D nw) (hJ : J y nw) : CEnd h₀ L m s I oI C oC D ys J y { s with heap := h', toks := tk' } :=
  CEnd.intro nw F N (fun _ h => h) off hJ
/-- a turn that made one thing -/
theorem CEnd.intro2 {h₀ : Heap} {L : Addr} {m : Str → Option Value} {s : Shared} {I : Addr} {oI : Obj} {C : Addr} {oC : Obj} {D : Addr} {ys : List Value} {J : Value → List (Addr × Obj) → Prop} {y : Value} {h' : Heap} {tk' : Nat} {nw : List (Addr × Obj)} {q : Addr × Obj}
    (F : Fr h₀ L h' m) (N : News h₀ L h' (q :: (I, oI) :: (C, oC) :: (D, lstN ys) :: nw)) (ne : ∀ p ∈ (I, oI) :: (C, oC) :: (D, lstN ys) :: nw, p.1 ≠ q.1) (off : Off3 I C D nw) (hJ : J y (q :: nw)) : CEnd h₀ L m s I oI C oC D ys J y { s with heap := h', toks := tk' } := by
  have perm : ∀ p, p ∈ (I, oI) :: (C, oC) :: (D, lstN ys) :: q :: nw → p ∈ q :: (I, oI) :: (C, oC) :: (D, lstN ys) :: nw := fun p hp => by
    simp only [List.mem_cons] at hp ⊢
    rcases hp with e | e | e | e | e <;> simp [e]
  refine CEnd.intro (q :: nw) F N perm (fun p hp => ?_) hJ
  rcases List.mem_cons.mp hp with rfl | hp
  · exact ⟨Ne.symm (ne _ (.head _)), Ne.symm (ne _ (.tail _ (.head _))), Ne.symm (ne _ (.tail _ (.tail _ (.head _))))⟩
  · exact off p hp
theorem CEnd.intro1 {h₀ : Heap} {L : Addr} {m : Str → Option Value} {s : Shared} {I : Addr} {oI : Obj} {C : Addr} {oC : Obj} {D : Addr} {ys : List Value} {J : Value → List (Addr × Obj) → Prop} {y : Value} {h' : Heap} {tk' : Nat} {nw : List (Addr × Obj)} {q : Addr × Obj}
    (F : Fr h₀ L h' m) (N : News h₀ L h' (q :: (I, oI) :: (C, oC) :: (D, lstN ys) :: nw)) (lt : ∀ p ∈ (I, oI) :: (C, oC) :: (D, lstN ys) :: nw, p.1 < q.1) (off : Off3 I C D nw) (hJ : J y (q :: nw)) : CEnd h₀ L m s I oI C oC D ys J y { s with heap := h', toks := tk' } :=
  CEnd.intro2 F N (fun p hp => Nat.ne_of_lt (lt p hp)) off hJ
section
variable {P : Ctx → Prop} {prog : Program} {w : World} {A : Around} {E : Value → Shared → Prop} {s : Shared} {env : Env} {h₀ : Heap} {L : Addr} {m : Str → Option Value} {news : List (Addr × Obj)} {elt iter : Expr} {ifs : List Expr} {x : Str} {px : Pos} {scope : Scope} {cl : List (Str × Addr)} {pos : Pos} {use : Option (Value → Sem Unit)} {Q : Value → Shared → Prop}
theorem CStep.mono {v : Value} {ys : List Value} {nw : List (Addr × Obj)} {J J' : List Value → List (Addr × Obj) → Prop} (h : CStep P prog w A env elt ifs x scope cl h₀ L m s v ys nw J)
    (k : ∀ ys nw, J ys nw → J' ys nw) : CStep P prog w A env elt ifs x scope cl h₀ L m s v ys nw J' := by
  intro h₁ tk₁ I oI C oC D m₂ off ne hoC hm F N
  refine wpP_mono (h h₁ tk₁ I oI C oC D m₂ off ne hoC hm F N) (fun ok s₃ h₃ => ?_) fun _ _ x => x
  cases ok with
  | true =>
    rw [if_pos rfl] at h₃ ⊢
    exact wpP_mono h₃ (fun y s₄ h₄ => h₄.mono fun nw hJ => k _ _ hJ) fun _ _ x => x
  | false =>
    rw [if_neg (by decide)] at h₃ ⊢
    exact h₃.mono fun nw hJ => k _ _ hJ
/-- two items, turn by turn -/
theorem comp_tup2 (K : Kept P) {a : Addr} {v0 v1 : Value} {k : Nat} (hh : A.handled = none) (hcell : ∀ y ∈ scope.names, y.2 ≠ .cell) (hkind : scope.kind = .function) (hx : scope.names.lookup x = some .local)
    (F : Fr h₀ L s.heap m) (N : News h₀ L s.heap news) (hm : (a, tupObj [v0, v1] k) ∈ news)
    (turn : CStep P prog w A env elt ifs x scope cl h₀ L m s v0 [] news (fun ys nw => ys.length ≤ 1 ∧ (a, tupObj [v0, v1] k) ∈ nw ∧ CStep P prog w A env elt ifs x scope cl h₀ L m s v1 ys nw (fun ys nw => ys.length ≤ 2 ∧ (a, tupObj [v0, v1] k) ∈ nw ∧ CFin (model prog w) A E use Q h₀ L m s ys nw))) :
    CGoal P prog w A E use Q (.ListComp elt [⟨.Name x px, iter, ifs, 0⟩] scope pos) scope cl env (.ref a) s := by
  refine comp_tup K hh hcell hkind hx F N hm (Nat.le_of_ble_eq_true rfl) (fun i ys nw => (a, tupObj [v0, v1] k) ∈ nw ∧ ys.length ≤ i ∧ (i = 0 → ys = [] ∧ nw = news) ∧ (i = 1 → CStep P prog w A env elt ifs x scope cl h₀ L m s v1 ys nw (fun ys nw => ys.length ≤ 2 ∧ (a, tupObj [v0, v1] k) ∈ nw ∧ CFin (model prog w) A E use Q h₀ L m s ys nw)) ∧ (i = 2 → CFin (model prog w) A E use Q h₀ L m s ys nw))
    (fun _ _ _ h => h.1) (fun _ _ _ h => h.2.1) ⟨hm, Nat.le_refl _, fun _ => ⟨rfl, rfl⟩, fun h => absurd h (by decide), fun h => absurd h (by decide)⟩ ?_ (fun ys nw h => h.2.2.2.2 rfl)
  intro i v ys nw hv hJ
  match i, hv with
  | 0, hv =>
    obtain ⟨rfl, rfl⟩ := hJ.2.2.1 rfl
    obtain rfl : v0 = v := by simpa using hv
    exact turn.mono fun ys nw h => ⟨h.2.1, h.1, fun e => absurd e (by decide), fun _ => h.2.2, fun e => absurd e (by decide)⟩
  | 1, hv =>
    obtain rfl : v1 = v := by simpa using hv
    exact (hJ.2.2.2.1 rfl).mono fun ys nw h => ⟨h.2.1, h.1, fun e => absurd e (by decide), fun e => absurd e (by decide), fun _ => h.2.2⟩
  | i + 2, hv => simp at hv
theorem comp_lst2 (K : Kept P) {a : Addr} {v0 v1 : Value} {k : Nat} (hh : A.handled = none) (hcell : ∀ y ∈ scope.names, y.2 ≠ .cell) (hkind : scope.kind = .function) (hx : scope.names.lookup x = some .local)
    (F : Fr h₀ L s.heap m) (N : News h₀ L s.heap news) (hm : (a, lstObj [v0, v1] k) ∈ news)
    (turn : CStep P prog w A env elt ifs x scope cl h₀ L m s v0 [] news (fun ys nw => ys.length ≤ 1 ∧ (a, lstObj [v0, v1] k) ∈ nw ∧ CStep P prog w A env elt ifs x scope cl h₀ L m s v1 ys nw (fun ys nw => ys.length ≤ 2 ∧ (a, lstObj [v0, v1] k) ∈ nw ∧ CFin (model prog w) A E use Q h₀ L m s ys nw))) :
    CGoal P prog w A E use Q (.ListComp elt [⟨.Name x px, iter, ifs, 0⟩] scope pos) scope cl env (.ref a) s := by
  refine comp_lst K hh hcell hkind hx F N hm (Nat.le_of_ble_eq_true rfl) (fun i ys nw => (a, lstObj [v0, v1] k) ∈ nw ∧ ys.length ≤ i ∧ (i = 0 → ys = [] ∧ nw = news) ∧ (i = 1 → CStep P prog w A env elt ifs x scope cl h₀ L m s v1 ys nw (fun ys nw => ys.length ≤ 2 ∧ (a, lstObj [v0, v1] k) ∈ nw ∧ CFin (model prog w) A E use Q h₀ L m s ys nw)) ∧ (i = 2 → CFin (model prog w) A E use Q h₀ L m s ys nw))
    (fun _ _ _ h => h.1) (fun _ _ _ h => h.2.1) ⟨hm, Nat.le_refl _, fun _ => ⟨rfl, rfl⟩, fun h => absurd h (by decide), fun h => absurd h (by decide)⟩ ?_ (fun ys nw h => h.2.2.2.2 rfl)
  intro i v ys nw hv hJ
  match i, hv with
  | 0, hv =>
    obtain ⟨rfl, rfl⟩ := hJ.2.2.1 rfl
    obtain rfl : v0 = v := by simpa using hv
    exact turn.mono fun ys nw h => ⟨h.2.1, h.1, fun e => absurd e (by decide), fun _ => h.2.2, fun e => absurd e (by decide)⟩
  | 1, hv =>
    obtain rfl : v1 = v := by simpa using hv
    exact (hJ.2.2.2.1 rfl).mono fun ys nw h => ⟨h.2.1, h.1, fun e => absurd e (by decide), fun e => absurd e (by decide), fun _ => h.2.2⟩
  | i + 2, hv => simp at hv
end
end Mine
end
section
open PySem PySem.W PyProof.Rows PySem.Calls
set_option maxRecDepth 100000
namespace Mine
/-- the loop of min (up) or of max, over the iterator I, its best so far in the list S -/
noncomputable abbrev bestLoop (up : Bool) (I S : Addr) : Code := .builtin (if up then "min.loop" else "max.loop") ⟨[.ref I, .none, .ref S], []⟩
noncomputable abbrev bestObj (vs : List Value) (c : Nat) : Obj := listOf vs.toArray c
theorem bestLoop_quiet (up : Bool) (I S : Addr) : (bestLoop up I S).quiet = true := by
  cases up
  · exact plainId_quiet F.plain_max_loop _
  · exact plainId_quiet F.plain_min_loop _
section
variable {prog : Program} {w : World} {A : Around} {s : Shared} {up : Bool} {I S a : Addr} {R : Result → Shared → Prop}
/-- nothing comes any more: the best is the answer -/
theorem best_last {v : Value} {c : Nat} {vs : List Value} (hh : A.handled = none) (hS : s.heap.get? S = some (bestObj [v, v] c)) (hI : s.heap.IsListIter I a vs.length) (hl : s.heap.IsList a vs.toArray) (ne : @Ne Nat S I)
    (h : ∀ h', (∀ b o, @Ne Nat b I → @Ne Nat b S → s.heap.get? b = some o → h'.get? b = some o) → R (.ok (.ret v)) { s with heap := h' }) : codeAny (model prog w) A (bestLoop up I S) R s := by
  have fin : ∀ {E : Value → Shared → Prop} {h' : Heap}, Heap.ExtBut I s.heap h' → wpAny (model prog w) A.in1 (updateSeq S (fun _ => #[]) >>= fun _ => letGo [v] [v] >>= fun _ => ret v)
      (fun fin t => match fin with | .done f => R (.ok f) t | .again c' => c'.quiet = true ∧ codeAny (model prog w) A c' R t) E { s with heap := h' } := fun {E h'} ext => by
    refine wpAny_bind (wpAny_updateSeq (ext _ _ ne hS) rfl (wpAny_bind (wpAny_letGo (wpAny_pure (h _ ?_)))))
    exact fun b o bi bs e => (Heap.get?_update_other _ _ (Ne.symm bs)).trans (ext b o bi e)
  cases up
  · refine codeAny_builtin F.entry_max_loop ((Around.under_plainId F.plain_max_loop _).symm ▸ wpAny_bind (wpAny_seqItems hS rfl (wpAny_bind (wpAny_tryCatch (wpAny_pyNext_list_end hh hI hl (by simp) fun h' ext => ?_)))))
    exact fin ext
  · refine codeAny_builtin F.entry_min_loop ((Around.under_plainId F.plain_min_loop _).symm ▸ wpAny_bind (wpAny_seqItems hS rfl (wpAny_bind (wpAny_tryCatch (wpAny_pyNext_list_end hh hI hl (by simp) fun h' ext => ?_)))))
    exact fin ext
/-- the first that comes is the best -/
theorem best_first {v : Value} {c : Nat} {vs : List Value} (hS : s.heap.get? S = some (bestObj [] c)) (hI : s.heap.IsListIter I a 0) (hl : s.heap.IsList a (v :: vs).toArray) (ne : @Ne Nat S I ∧ @Ne Nat a I ∧ @Ne Nat a S)
    (h : ∀ h' c', (∀ b o, @Ne Nat b I → @Ne Nat b S → s.heap.get? b = some o → h'.get? b = some o) → h'.get? S = some (bestObj [v, v] c') → h'.IsListIter I a 1 → h'.IsList a (v :: vs).toArray → codeAny (model prog w) A (bestLoop up I S) R { s with heap := h' }) :
    codeAny (model prog w) A (bestLoop up I S) R s := by
  have fin : ∀ {E : Value → Shared → Prop} {h' : Heap}, h'.IsListIter I a 1 → Heap.SameBut I s.heap h' → ∀ n, n = (if up then "min.loop" else "max.loop") → wpAny (model prog w) A.in1 (updateSeq S (fun _ => #[v, v]) >>= fun _ => again (.builtin n ⟨[.ref I, .none, .ref S], []⟩))
      (fun fin t => match fin with | .done f => R (.ok f) t | .again c' => c'.quiet = true ∧ codeAny (model prog w) A c' R t) E { s with heap := h' } := fun {E h'} hI' same n e => by
    subst e
    have old : ∀ b o, @Ne Nat b I → s.heap.get? b = some o → h'.get? b = some o := fun b o bi e => (same.2 b bi).trans e
    have at_ := old _ _ ne.1 hS
    have stay : ∀ b o, @Ne Nat b S → h'.get? b = some o → (h'.update S (Obj.mapSeq fun _ => #[v, v])).get? b = some o := fun b o bs e => (Heap.get?_update_other _ _ (Ne.symm bs)).trans e
    refine wpAny_bind (wpAny_updateSeq at_ rfl (wpAny_pure ⟨bestLoop_quiet _ _ _, h _ _ (fun b o bi bs e => stay b o bs (old b o bi e)) (Heap.get?_update_self _ at_ rfl) (hI'.at fun o e => stay _ o (Ne.symm ne.1) e) ?_⟩))
    exact hl.at fun o e => stay _ o ne.2.2 (old _ o ne.2.1 e)
  cases up
  · refine codeAny_builtin F.entry_max_loop ((Around.under_plainId F.plain_max_loop _).symm ▸ wpAny_bind (wpAny_seqItems hS rfl (wpAny_bind (wpAny_tryCatch (wpAny_pyNext_list_item hI hl (x := v) (by simp) fun h' hI' same => ?_)))))
    exact fin hI' same _ (by decide)
  · refine codeAny_builtin F.entry_min_loop ((Around.under_plainId F.plain_min_loop _).symm ▸ wpAny_bind (wpAny_seqItems hS rfl (wpAny_bind (wpAny_tryCatch (wpAny_pyNext_list_item hI hl (x := v) (by simp) fun h' hI' same => ?_)))))
    exact fin hI' same _ (by decide)
/-- a further one is asked against the best so far -/
theorem best_next {v x : Value} {c i : Nat} {vs : List Value} (better : Bool) (hS : s.heap.get? S = some (bestObj [v, v] c)) (hI : s.heap.IsListIter I a i) (hl : s.heap.IsList a vs.toArray) (hx : vs[i]? = some x) (ne : @Ne Nat S I ∧ @Ne Nat a I ∧ @Ne Nat a S)
    (ask : ∀ (h' : Heap) (Q : Value → Shared → Prop) (E : Value → Shared → Prop), (∀ b o, @Ne Nat b I → s.heap.get? b = some o → h'.get? b = some o) → Q (.bool better) { s with heap := h' } → wpAny (model prog w) A.in1 (richCompare (opOf up) x v) Q E { s with heap := h' })
    (h : ∀ h' c', (∀ b o, @Ne Nat b I → @Ne Nat b S → s.heap.get? b = some o → h'.get? b = some o) → h'.get? S = some (bestObj (if better then [x, x] else [v, v]) c') → h'.IsListIter I a (i + 1) → h'.IsList a vs.toArray → codeAny (model prog w) A (bestLoop up I S) R { s with heap := h' }) :
    codeAny (model prog w) A (bestLoop up I S) R s := by
  have got : ∀ {E : Value → Shared → Prop} {h' : Heap}, h'.IsListIter I a (i + 1) → Heap.SameBut I s.heap h' → ∀ n, n = (if up then "min.loop" else "max.loop") →
      wpAny (model prog w) A.in1 (if better = true then updateSeq S (fun _ => #[x, x]) >>= fun _ => letGo [v, v] >>= fun _ => again (.builtin n ⟨[.ref I, .none, .ref S], []⟩) else letGo [x, x] >>= fun _ => again (.builtin n ⟨[.ref I, .none, .ref S], []⟩))
      (fun fin t => match fin with | .done f => R (.ok f) t | .again c' => c'.quiet = true ∧ codeAny (model prog w) A c' R t) E { s with heap := h' } := fun {E h'} hI' same n e => by
    subst e
    have old : ∀ b o, @Ne Nat b I → s.heap.get? b = some o → h'.get? b = some o := fun b o bi e => (same.2 b bi).trans e
    have at_ := old _ _ ne.1 hS
    cases better with
    | false => exact wpAny_bind (wpAny_letGo (wpAny_pure ⟨bestLoop_quiet _ _ _, h h' c (fun b o bi _ e => old b o bi e) at_ hI' (hl.at fun o e => old _ o ne.2.1 e)⟩))
    | true =>
      have stay : ∀ b o, @Ne Nat b S → h'.get? b = some o → (h'.update S (Obj.mapSeq fun _ => #[x, x])).get? b = some o := fun b o bs e => (Heap.get?_update_other _ _ (Ne.symm bs)).trans e
      refine wpAny_bind (wpAny_updateSeq at_ rfl (wpAny_bind (wpAny_letGo (wpAny_pure ⟨bestLoop_quiet _ _ _, h _ _ (fun b o bi bs e => stay b o bs (old b o bi e)) (Heap.get?_update_self _ at_ rfl) (hI'.at fun o e => stay _ o (Ne.symm ne.1) e) ?_⟩))))
      exact hl.at fun o e => stay _ o ne.2.2 (old _ o ne.2.1 e)
  cases up
  · refine codeAny_builtin F.entry_max_loop ((Around.under_plainId F.plain_max_loop _).symm ▸ wpAny_bind (wpAny_seqItems hS rfl (wpAny_bind (wpAny_tryCatch (wpAny_pyNext_list_item hI hl (x := x) (by simpa using hx) fun h' hI' same => ?_)))))
    have ask' := fun Q E => ask h' Q E fun b o bi e => (same.2 b bi).trans e
    show wpAny _ A.in1 (tryCatch (holding [x, x] (richCompare .Gt x v >>= _)) _ >>= _) _ _ _
    refine wpAny_bind (wpAny_tryCatch (wpAny_holding (wpAny_bind (ask' _ _ (wpAny_bind (wpAny_holding (wpAny_truthy_bool (wpAny_bind (wpAny_letGo (wpAny_pure ?_))))))))))
    exact got hI' same _ (by decide)
  · refine codeAny_builtin F.entry_min_loop ((Around.under_plainId F.plain_min_loop _).symm ▸ wpAny_bind (wpAny_seqItems hS rfl (wpAny_bind (wpAny_tryCatch (wpAny_pyNext_list_item hI hl (x := x) (by simpa using hx) fun h' hI' same => ?_)))))
    have ask' := fun Q E => ask h' Q E fun b o bi e => (same.2 b bi).trans e
    show wpAny _ A.in1 (tryCatch (holding [x, x] (richCompare .Lt x v >>= _)) _ >>= _) _ _ _
    refine wpAny_bind (wpAny_tryCatch (wpAny_holding (wpAny_bind (ask' _ _ (wpAny_bind (wpAny_holding (wpAny_truthy_bool (wpAny_bind (wpAny_letGo (wpAny_pure ?_))))))))))
    exact got hI' same _ (by decide)
/-- min or max of one list: its loop, over a new iterator and an empty list -/
theorem best_call {vs : List Value} {Q : Value → Shared → Prop} {E : Value → Shared → Prop} (hl : s.heap.IsList a vs.toArray)
    (loop : ∀ (h' : Heap) (I S : Addr), s.heap.objs.size ≤ I → I < S → (∀ b o, s.heap.get? b = some o → h'.get? b = some o) → h'.get? S = some (bestObj [] 0) → h'.IsListIter I a 0 → h'.IsList a vs.toArray →
      codeAny (model prog w) A (bestLoop up I S) (fun r t => match r with | .ok (.ret v) => Q v t | .ok _ => False | .error e => E e t) { s with heap := h' }) :
    wpAny (model prog w) A (call (.builtin (if up then "min" else "max")) [.ref a]) Q E s := by
  have made : ∀ {E' : Value → Shared → Prop} n, n = (if up then "min.loop" else "max.loop") → wpAny (model prog w) A.in1 (pyIter (.ref a) >>= fun it => newList [] >>= fun S => again (.builtin n ⟨[it, .none, S], []⟩))
      (fun fin t => match fin with
        | .done f => (match (Except.ok f : Result) with | .ok (.ret v) => Q v t | .ok _ => False | .error e => E e t)
        | .again c' => c'.quiet = true ∧ codeAny (model prog w) A c' (fun r t => match r with | .ok (.ret v) => Q v t | .ok _ => False | .error e => E e t) t) E' s := fun {E'} n e => by
    subst e
    refine wpAny_bind (wpAny_pyIter_list hl (wpAny_bind (wpAny_newObj_type (wpAny_pure ⟨bestLoop_quiet _ _ _, ?_⟩))))
    have old : ∀ b o, s.heap.get? b = some o → _ := fun b o e => Heap.get?_push_of_some { cls := .type "list", data := .seq ([] : List Value).toArray } (Heap.get?_push_of_some { cls := .type "list_iterator", data := .fields #[.ref a, .int 0 0] } e)
    refine loop _ _ _ (Nat.le_refl _) ?_ old (Heap.get?_push_size _ rfl) ⟨_, Heap.get?_push_of_some _ (Heap.get?_push_size _ rfl), rfl, rfl⟩ (hl.at fun o e => old _ o e)
    rw [Heap.size_push]; exact Nat.lt_succ_self _
  have params : ∀ n : String, Builtin.Builtins.bindParams n ["key", "default"] 0 ⟨[], []⟩ = pure [none, none] := fun _ => rfl
  cases up
  · refine call_function_tree F.kind_max F.plain_max F.entry_max (F.args_max1 _) ?_
    refine wpAny_bind (m := Builtin.Builtins.bindParams "max" _ _ _) (wpAny_of_eq (params _) (wpAny_bind (wpAny_pure ?_)))
    exact made _ (by decide)
  · refine call_function_tree F.kind_min F.plain_min F.entry_min (F.args_min1 _) ?_
    refine wpAny_bind (m := Builtin.Builtins.bindParams "min" _ _ _) (wpAny_of_eq (params _) (wpAny_bind (wpAny_pure ?_)))
    exact made _ (by decide)
end
section
variable {prog : Program} {w : World} {A : Around} {E : Value → Shared → Prop} {s : Shared} {h₀ : Heap} {L : Addr} {m : Str → Option Value} {news : List (Addr × Obj)}
/-- the lesser (up) or the greater of two rows of octets in a list: the second, where it is better, else the first -/
theorem call_best (up : Bool) {a p q : Addr} {k n1 n2 : Nat} {vs us : List Value} {xs ys : List (Array UInt8)} {Q : Value → Shared → Prop} (hh : A.handled = none) (hr : A.units + 1 < cLine) (hv : BytesAre vs xs) (hu : BytesAre us ys)
    (F₁ : Fr h₀ L s.heap m) (N : News h₀ L s.heap news) (hm : (a, listOf [Value.ref p, .ref q].toArray k) ∈ news) (hp : (p, listOf vs.toArray n1) ∈ news) (hq : (q, listOf us.toArray n2) ∈ news)
    (h : ∀ h' r vr nr xr, (r, listOf vr.toArray nr) ∈ news → BytesAre vr xr → xr = (if ansOf up (ordL ys xs) = true then ys else xs) → Fr h₀ L h' m → News h₀ L h' news → Q (.ref r) { s with heap := h' }) :
    wpAny (model prog w) A (call (.builtin (if up then "min" else "max")) [.ref a]) Q E s := by
  have below : ∀ {b o}, (b, o) ∈ news → @LT.lt Nat _ b s.heap.objs.size := fun hb => Heap.lt_size (N _ hb).1
  refine best_call (isL N hm) fun h₁ I S hI hS old₁ at₁ it₁ l₁ => ?_
  have off : ∀ b o, s.heap.get? b = some o → @Ne Nat b I ∧ @Ne Nat b S := fun b o e => by
    have := Heap.lt_size e
    exact ⟨Nat.ne_of_lt (Nat.lt_of_lt_of_le this hI), Nat.ne_of_lt (Nat.lt_trans (Nat.lt_of_lt_of_le this hI) hS)⟩
  have na := off _ _ (N _ hm).1
  have ne : @Ne Nat S I ∧ @Ne Nat a I ∧ @Ne Nat a S := ⟨Nat.ne_of_gt hS, na.1, na.2⟩
  refine best_first (s := { s with heap := h₁ }) at₁ it₁ l₁ ne fun h₂ c₂ old₂ at₂ it₂ l₂ => ?_
  refine best_next (s := { s with heap := h₂ }) (ansOf up (ordL ys xs)) at₂ it₂ l₂ rfl ne (fun h' Q' E' old' q' => ?_) fun h₃ c₃ old₃ at₃ it₃ l₃ => ?_
  · have there : ∀ {b o}, (b, o) ∈ news → h'.get? b = some o := fun {b o} hb => by
      have e := (N _ hb).1
      exact old' _ _ (off _ _ e).1 (old₂ _ _ (off _ _ e).1 (off _ _ e).2 (old₁ _ _ e))
    exact rcL_order up (s := { s with heap := h' }) hu hv (there hq) (there hp) hr q'
  have ended : ∀ {r vr nr xr}, (r, listOf vr.toArray nr) ∈ news → BytesAre vr xr → xr = (if ansOf up (ordL ys xs) = true then ys else xs) → h₃.get? S = some (bestObj [.ref r, .ref r] c₃) →
      codeAny (model prog w) A (bestLoop up I S) (fun r t => match r with | .ok (.ret v) => Q v t | .ok _ => False | .error e => E e t) { s with heap := h₃ } := fun {r vr nr xr} hr' hb hx at₃ => by
    refine best_last (s := { s with heap := h₃ }) hh at₃ it₃ l₃ ne.1 fun h₄ old₄ => ?_
    have whole : ∀ b o, s.heap.get? b = some o → h₄.get? b = some o := fun b o e => by
      have f := off b o e
      exact old₄ b o f.1 f.2 (old₃ b o f.1 f.2 (old₂ b o f.1 f.2 (old₁ b o e)))
    exact h h₄ r vr nr xr hr' hb hx (F₁.keeps whole) (N.grown whole)
  cases better : ansOf up (ordL ys xs) with
  | true => rw [better] at at₃; exact ended hq hu (by rw [better]; rfl) at₃
  | false => rw [better] at at₃; exact ended hp hv (by rw [better]; rfl) at₃
theorem call_min2' {a p q : Addr} {k n1 n2 : Nat} {vs us : List Value} {xs ys : List (Array UInt8)} {Q : Value → Shared → Prop} (hh : A.handled = none) (hr : A.units + 1 < cLine) (hv : BytesAre vs xs) (hu : BytesAre us ys)
    (F₁ : Fr h₀ L s.heap m) (N : News h₀ L s.heap news) (hm : (a, listOf [Value.ref p, .ref q].toArray k) ∈ news) (hp : (p, listOf vs.toArray n1) ∈ news) (hq : (q, listOf us.toArray n2) ∈ news)
    (h : ∀ h' r vr nr xr, (r, listOf vr.toArray nr) ∈ news → BytesAre vr xr → xr = (if (ordL ys xs == .lt) = true then ys else xs) → Fr h₀ L h' m → News h₀ L h' news → Q (.ref r) { s with heap := h' }) :
    wpAny (model prog w) A (call (.builtin "min") [.ref a]) Q E s := call_best true hh hr hv hu F₁ N hm hp hq h
theorem call_max2' {a p q : Addr} {k n1 n2 : Nat} {vs us : List Value} {xs ys : List (Array UInt8)} {Q : Value → Shared → Prop} (hh : A.handled = none) (hr : A.units + 1 < cLine) (hv : BytesAre vs xs) (hu : BytesAre us ys)
    (F₁ : Fr h₀ L s.heap m) (N : News h₀ L s.heap news) (hm : (a, listOf [Value.ref p, .ref q].toArray k) ∈ news) (hp : (p, listOf vs.toArray n1) ∈ news) (hq : (q, listOf us.toArray n2) ∈ news)
    (h : ∀ h' r vr nr xr, (r, listOf vr.toArray nr) ∈ news → BytesAre vr xr → xr = (if (ordL ys xs == .gt) = true then ys else xs) → Fr h₀ L h' m → News h₀ L h' news → Q (.ref r) { s with heap := h' }) :
    wpAny (model prog w) A (call (.builtin "max") [.ref a]) Q E s := call_best false hh hr hv hu F₁ N hm hp hq h
end
end Mine
end
section
open PySem PySem.W PyProof.Rows PySem.Calls
set_option maxRecDepth 100000
namespace Mine
open MeetsSeq MeetsSeq3
section
variable {prog : Program} {w : World} {A : Around} {E : Value → Shared → Prop} {s : Shared} {h₀ : Heap} {L : Addr} {m : Str → Option Value} {news : List (Addr × Obj)}
/-- a part of a list -/
theorem slice_LL {value slice : Expr} {a : Addr} {vs : List Value} {n : Nat} {vl vu : Value} {lo hi : Option Int} {Q : Value → Shared → Prop} (F : Fr h₀ L s.heap m) (N : News h₀ L s.heap news) (hm : (a, listOf vs.toArray n) ∈ news) (pl : IsPart vl lo) (pu : IsPart vu hi) (hz : vs.length ≤ 1000000)
    (h : ∀ D h', Fr h₀ L h' m → News h₀ L h' ((D, listOf (kms_pick vs lo hi).toArray 0) :: news) → (∀ p ∈ news, p.1 < D) → Q (.ref D) { s with heap := h' })
    (hs : subscripted slice false (.ref a) (.ref s.heap.objs.size) = operate [.ref s.heap.objs.size, .ref a] (getItem (.ref a) (.ref s.heap.objs.size)) := by with_unfolding_all rfl)
    (ht : ∀ r, letTemporaryGo value (.ref a) r = pure () := by intro _; with_unfolding_all rfl) :
    wpAny (model prog w) A (subscriptTail value slice (.ref a) (.ref s.heap.objs.size)) Q E { s with heap := s.heap.push { cls := .type "slice", data := .fields #[vl, vu, .none] } } :=
  kms_slice_lit F N (isL N hm) pl pu rfl (by simpa using h) hs ht (by rw [sizeLine_eq, List.size_toArray]; omega)
theorem pick_upto (vs : List Value) (i : Nat) : kms_pick vs none (some (i : Int)) = vs.take i := by
  unfold kms_pick kms_lo kms_hi
  have : ¬ ((i : Int) < 0) := by omega
  simp only [this, if_false, List.drop_zero, Int.toNat_natCast]
  rw [Nat.sub_zero]
  by_cases h : i ≤ vs.length
  · rw [Nat.min_eq_left h]
  · rw [Nat.min_eq_right (by omega), List.take_length, List.take_of_length_le (by omega)]
theorem pick_from (vs : List Value) (i : Nat) : kms_pick vs (some (i : Int)) none = vs.drop i := by
  unfold kms_pick kms_lo kms_hi
  have : ¬ ((i : Int) < 0) := by omega
  simp only [this, if_false, Int.toNat_natCast]
  by_cases h : i ≤ vs.length
  · rw [Nat.min_eq_left h, List.take_of_length_le (by simp)]
  · rw [Nat.min_eq_right (by omega)]
    simp; omega
theorem pick_both (vs : List Value) (i j : Nat) (hj : j ≤ vs.length) : kms_pick vs (some (i : Int)) (some (j : Int)) = (vs.take j).drop i := by
  unfold kms_pick kms_lo kms_hi
  have h1 : ¬ ((i : Int) < 0) := by omega
  have h2 : ¬ ((j : Int) < 0) := by omega
  simp only [h1, h2, if_false, Int.toNat_natCast]
  rw [Nat.min_eq_left hj]
  by_cases h : i ≤ vs.length
  · rw [Nat.min_eq_left h, List.drop_take]
  · rw [Nat.min_eq_right (by omega)]
    have e1 : vs.drop vs.length = [] := by simp
    have e2 : (vs.take j).drop i = [] := by simp; omega
    rw [e1, e2]; simp
theorem getD_at {α : Type} {xs : List α} {d : α} {j : Nat} (h : j < xs.length) : xs.getD j d = xs[j] := by
  rw [List.getD_eq_getElem?_getD, List.getElem?_eq_getElem h]; rfl
/-- two rows of octets, the same -/
theorem all_eqB : ∀ {vs us : List Value} {xs ys : List (Array UInt8)}, BytesAre vs xs → BytesAre us ys → xs.length = ys.length → ((List.range vs.toArray.size).all fun j => (xs.getD j #[]).toList == (ys.getD j #[]).toList) = decide (xs = ys) := by
  intro vs us xs ys hv hu hl
  rw [Bool.eq_iff_iff, decide_eq_true_eq, List.all_eq_true]
  have hs : vs.toArray.size = xs.length := by rw [List.size_toArray, hv.length]
  constructor
  · intro h
    refine List.ext_getElem hl fun i h1 h2 => ?_
    have := h i (List.mem_range.mpr (by rw [hs]; exact h1))
    rw [beq_iff_eq, getD_at h1, getD_at h2] at this
    exact Array.toList_inj.mp this
  · rintro rfl i _
    simp
theorem EqGs {vs us : List Value} {xs ys : List (Array UInt8)} (hv : BytesAre vs xs) (hu : BytesAre us ys) : ∀ j (h1 : j < vs.toArray.size) (h2 : j < us.toArray.size), EqGives vs.toArray[j] us.toArray[j] ((xs.getD j #[]).toList == (ys.getD j #[]).toList) := by
  intro j h1 h2
  have l1 : j < xs.length := by rw [← hv.length]; simpa using h1
  have l2 : j < ys.length := by rw [← hu.length]; simpa using h2
  obtain ⟨t, e1⟩ := hv.get (List.getElem?_eq_getElem l1)
  obtain ⟨u, e2⟩ := hu.get (List.getElem?_eq_getElem l2)
  have f1 : vs.toArray[j] = .bytes xs[j] t := by
    have := List.getElem?_eq_some_iff.mp e1
    simpa using this.2
  have f2 : us.toArray[j] = .bytes ys[j] u := by
    have := List.getElem?_eq_some_iff.mp e2
    simpa using this.2
  rw [f1, f2, getD_at l1, getD_at l2]
  exact fun _ _ _ _ _ _ q => eq_octets q
theorem rcL_eq {a b : Addr} {n n2 : Nat} {vs us : List Value} {xs ys : List (Array UInt8)} {Q : Value → Shared → Prop} (hv : BytesAre vs xs) (hu : BytesAre us ys) (hl : s.heap.get? a = some (listOf vs.toArray n)) (hb : s.heap.get? b = some (listOf us.toArray n2))
    (hr : A.units < cLine) (h : Q (.bool (decide (xs = ys))) s) : wpAny (model prog w) A (richCompare .Eq (.ref a) (.ref b)) Q E s := by
  have Ta : s.TypeIs (.ref a) "list" := ⟨_, hl, rfl⟩
  have Tb : s.TypeIs (.ref b) "list" := ⟨_, hb, rfl⟩
  by_cases hlen : xs.length = ys.length
  · refine wpAny_richCompare_same_room (op := .Eq) Ta Tb F.slot_list_eq (call_meets F.slot_list_eq Ta F.entry_list_eq (F.args_list_eq_2 _ _) (list_eq a b vs.toArray us.toArray n n2 (by simp [hv.length, hu.length, hlen]) _ (EqGs hv hu)) ⟨hl, hb, (fun e => nomatch e), ?_⟩) hr
    rw [all_eqB hv hu hlen]; exact h
  · refine wpAny_richCompare_same_room (op := .Eq) Ta Tb F.slot_list_eq (call_meets F.slot_list_eq Ta F.entry_list_eq (F.args_list_eq_2 _ _) (SeqAt.list_eq_lengthsAt a b vs.toArray us.toArray n n2 none none #[] #[] (by simp [hv.length, hu.length, hlen])) ⟨hl, hb, (fun e => nomatch e), ?_⟩) hr
    have : ¬ xs = ys := fun e => hlen (by rw [e])
    rw [decide_eq_false this] at h; exact h
theorem rcL_ne {a b : Addr} {n n2 : Nat} {vs us : List Value} {xs ys : List (Array UInt8)} {Q : Value → Shared → Prop} (hv : BytesAre vs xs) (hu : BytesAre us ys) (hl : s.heap.get? a = some (listOf vs.toArray n)) (hb : s.heap.get? b = some (listOf us.toArray n2))
    (hr : A.units < cLine) (h : Q (.bool (!decide (xs = ys))) s) : wpAny (model prog w) A (richCompare .NotEq (.ref a) (.ref b)) Q E s := by
  have Ta : s.TypeIs (.ref a) "list" := ⟨_, hl, rfl⟩
  have Tb : s.TypeIs (.ref b) "list" := ⟨_, hb, rfl⟩
  by_cases hlen : xs.length = ys.length
  · refine wpAny_richCompare_same_room (op := .NotEq) Ta Tb F.slot_list_ne (call_meets F.slot_list_ne Ta F.entry_list_ne (F.args_list_ne_2 _ _) (SeqAt.list_neAt a b vs.toArray us.toArray n n2 none none #[] #[] (by simp [hv.length, hu.length, hlen]) _) ⟨hl, hb, (fun j h1 h2 => (EqGs hv hu j h1 h2).at _ _), (fun e => nomatch e), ?_⟩) hr
    rw [all_eqB hv hu hlen]; exact h
  · refine wpAny_richCompare_same_room (op := .NotEq) Ta Tb F.slot_list_ne (call_meets F.slot_list_ne Ta F.entry_list_ne (F.args_list_ne_2 _ _) (SeqAt.list_ne_lengthsAt a b vs.toArray us.toArray n n2 none none #[] #[] (by simp [hv.length, hu.length, hlen])) ⟨hl, hb, (fun e => nomatch e), ?_⟩) hr
    have : ¬ xs = ys := fun e => hlen (by rw [e])
    rw [decide_eq_false this] at h; exact h
theorem eq_BL {a b : Addr} {n n2 : Nat} {vs us : List Value} {xs ys : List (Array UInt8)} {Q : Value → Shared → Prop} (hv : BytesAre vs xs) (hu : BytesAre us ys) (N : News h₀ L s.heap news) (ha : (a, listOf vs.toArray n) ∈ news) (hb : (b, listOf us.toArray n2) ∈ news)
    (hr : A.units < cLine) (h : Q (.bool (decide (xs = ys))) s) : wpAny (model prog w) A (compareOp .Eq (.ref a) (.ref b)) Q E s := rcL_eq hv hu (N _ ha).1 (N _ hb).1 hr h
theorem ne_BL {a b : Addr} {n n2 : Nat} {vs us : List Value} {xs ys : List (Array UInt8)} {Q : Value → Shared → Prop} (hv : BytesAre vs xs) (hu : BytesAre us ys) (N : News h₀ L s.heap news) (ha : (a, listOf vs.toArray n) ∈ news) (hb : (b, listOf us.toArray n2) ∈ news)
    (hr : A.units < cLine) (h : Q (.bool (!decide (xs = ys))) s) : wpAny (model prog w) A (compareOp .NotEq (.ref a) (.ref b)) Q E s := rcL_ne hv hu (N _ ha).1 (N _ hb).1 hr h
end
end Mine
end
section
open PySem PySem.W PyProof.Rows PySem.Calls
set_option maxRecDepth 100000
namespace Mine
theorem picked_mem {items : Array Value} {lo hi st : Option Int} {v : Value} (h : v ∈ (slicePick items lo hi st).toList) : v ∈ items.toList := by
  unfold slicePick at h
  simp only [List.mem_filterMap] at h
  obtain ⟨j, _, hj⟩ := h
  obtain ⟨hj1, rfl⟩ := Array.getElem?_eq_some_iff.mp hj
  simp
section
variable {prog : Program} {w : World} {A : Around} {E : Value → Shared → Prop} {s : Shared} {h₀ : Heap} {L : Addr} {m : Str → Option Value} {news : List (Addr × Obj)} {value slice : Expr} {Q : Value → Shared → Prop}
/-- a part of a row of ints, with a step -/
theorem slice3_ints {l : Addr} {vs : List Value} {xs : List Int} {vl vu vk : Value} {lo hi st : Option Int} {ops : List Value} (F : Fr h₀ L s.heap m) (N : News h₀ L s.heap news) (hl : h₀.IsList l vs.toArray) (hI : IntsAre vs xs) (pl : IsPart vl lo) (pu : IsPart vu hi) (pk : IsPart vk st) (h0 : st ≠ some 0)
    (hz : xs.length ≤ 63)
    (h : ∀ D h' ws ns, Fr h₀ L h' m → News h₀ L h' ((D, listOf ws.toArray 0) :: news) → (∀ p ∈ news, p.1 < D) → IntsAre ws ns → Q (.ref D) { s with heap := h' })
    (hs : subscripted slice false (.ref l) (.ref s.heap.objs.size) = operate ops (getItem (.ref l) (.ref s.heap.objs.size)) := by with_unfolding_all rfl) (ht : ∀ r, letTemporaryGo value (.ref l) r = pure () := by intro _; with_unfolding_all rfl) :
    wpAny (model prog w) A (subscriptTail value slice (.ref l) (.ref s.heap.objs.size)) Q E { s with heap := s.heap.push { cls := .type "slice", data := .fields #[vl, vu, vk] } } := by
  have hn := intsAre_map (slicePick vs.toArray lo hi st).toList fun v hv => hI.all v (by simpa using picked_mem hv)
  exact kmk_slice3_lit F N (F.lst hl) pl pu pk h0 rfl (fun D h' F' N' l1 => h D h' _ _ F' N' l1 hn) hs ht (by rw [List.size_toArray, hI.length, sizeLine_eq]; omega)
/-- an item of a row, of which all that is asked is what all its items have -/
theorem item_any {a : Addr} {vs : List Value} {n : Nat} {x : Int} {u : Tok} {Pv : Value → Prop} (N : News h₀ L s.heap news) (hm : (a, listOf vs.toArray n) ∈ news) (h0 : 0 ≤ x) (h1 : x < vs.length) (hz : vs.length ≤ 1000000) (hP : ∀ v ∈ vs, Pv v) (h : ∀ v, Pv v → Q v s)
    (hs : subscripted slice false (.ref a) (.int x u) = operate [.ref a, .int x u] (getItem (.ref a) (.int x u)) := by with_unfolding_all rfl) :
    wpAny (model prog w) A (subscriptTail value slice (.ref a) (.int x u)) Q E s := by
  have hx : x.toNat < vs.length := by omega
  exact item_L N hm h0 (by have : (1000000 : Int) < 2 ^ 63 := by decide
                           omega) (List.getElem?_eq_getElem hx) (h _ (hP _ (List.getElem_mem hx))) hs
theorem bytes_nth : ∀ {vs : List Value} {bs : List (Array UInt8)} (i : Nat), BytesAre vs bs → i < bs.length → ∃ t, vs[i]? = some (.bytes (bs.getD i #[]) t)
  | _, _, 0, .cons (t := t) h, _ => ⟨t, rfl⟩
  | _, _, i + 1, .cons h, hi => by simpa using bytes_nth i h (by simpa using hi)
/-- an item of a row of octets -/
theorem item_bytes {a : Addr} {vs : List Value} {bs : List (Array UInt8)} {n : Nat} {x : Int} {u : Tok} (N : News h₀ L s.heap news) (hm : (a, listOf vs.toArray n) ∈ news) (hB : BytesAre vs bs) (h0 : 0 ≤ x) (h1 : x < bs.length) (hz : bs.length ≤ 1000000) (h : ∀ t, Q (.bytes (bs.getD x.toNat #[]) t) s)
    (hs : subscripted slice false (.ref a) (.int x u) = operate [.ref a, .int x u] (getItem (.ref a) (.int x u)) := by with_unfolding_all rfl) :
    wpAny (model prog w) A (subscriptTail value slice (.ref a) (.int x u)) Q E s := by
  obtain ⟨t, ht⟩ := bytes_nth x.toNat hB (by omega)
  exact item_L N hm h0 (by have : (1000000 : Int) < 2 ^ 63 := by decide
                           omega) ht (h t) hs
/-- a row backwards -/
theorem slice_back {a : Addr} {vs : List Value} {n : Nat} {vk : Value} {ops : List Value} (F : Fr h₀ L s.heap m) (N : News h₀ L s.heap news) (hm : (a, listOf vs.toArray n) ∈ news) (pk : IsPart vk (some (-1))) (hz : vs.length ≤ 1000000)
    (h : ∀ D h', Fr h₀ L h' m → News h₀ L h' ((D, listOf vs.reverse.toArray 0) :: news) → (∀ p ∈ news, p.1 < D) → Q (.ref D) { s with heap := h' })
    (hs : subscripted slice false (.ref a) (.ref s.heap.objs.size) = operate ops (getItem (.ref a) (.ref s.heap.objs.size)) := by with_unfolding_all rfl) (ht : ∀ r, letTemporaryGo value (.ref a) r = pure () := by intro _; with_unfolding_all rfl) :
    wpAny (model prog w) A (subscriptTail value slice (.ref a) (.ref s.heap.objs.size)) Q E { s with heap := s.heap.push { cls := .type "slice", data := .fields #[.none, .none, vk] } } :=
  krv_lit F N (isL N hm) pk rfl h hs ht (by rw [List.size_toArray, sizeLine_eq]; omega)
end
end Mine
end
section
open PySem PySem.W PyProof.Rows PySem.Calls PySem.Spec PySem.Challenge
set_option maxRecDepth 100000
namespace Mine
/-- the stub's context, alone on its thread, holds nothing -/
theorem stub_clean : Clean ⟨.builtin "claim.caller" {}, none, none, [], none⟩ :=
  And.intro (by decide +kernel) (by simp)
/-- the law's row, its claim, and the view of its program -/
noncomputable abbrev lRow : RowW := rw_pd0128_01.row.toRowW
noncomputable abbrev lClaim : ClaimW := lRow.claim
noncomputable abbrev lView : Program := Mine.hd.view_1_2
noncomputable abbrev lHook : Hook := kHook Mine.lawK Mine.lawAs Mine.lawAs_eq
/-- every object of the first heap stands in the second -/
noncomputable def Lasts (h h' : Heap) : Prop := ∀ b o, h.get? b = some o → h'.get? b = some o
/-- what stands when the law is called: the top as the view has it, the objects, the script laid -/
structure Stands (w : World) (s₀ s : Shared) (xs : List WData) (vs : List Value) (as : List Addr) : Prop where
  ground : Ground lView [] [] (XL lView []) w s₀ (s₀.heap.nsMap mainGlobals) (s₀.heap.nsMap builtinsNs) s.heap
  seen : lHook.says w s.heap
  fits : lClaim.pre xs = true
  lays : WData.layableAll xs = true
  laid : Laid [] w s₀ s xs vs as
  room : sysModules < s₀.heap.objs.size
/-- the walk that is asked for: the law's def, called so, gives True and leaves the old objects alone -/
noncomputable def LawWalk : Prop := ∀ (w : World) (s₀ s : Shared) (xs : List WData) (vs : List Value) (as : List Addr), Stands w s₀ s xs vs as →
  ∃ f, s₀.heap.nsMap mainGlobals lRow.name = some f ∧
    wpP Clean (model lRow.prog w) callerA (call f vs) (fun v t => v = .bool true ∧ Lasts s.heap t.heap ∧ t.os = s.os ∧ t.gens = #[]) (fun _ _ => False) s
/-- the machine ends where such a walk ends -/
theorem stub_ends {w : World} {s₀ s : Shared} {f : Value} {vs : List Value} (awake : s.asleep) (hn : s.heap.Ns mainGlobals (s₀.heap.nsMap mainGlobals))
    (hf : s₀.heap.nsMap mainGlobals lRow.name = some f)
    (walk : wpP Clean (model lRow.prog w) callerA (call f vs) (fun v t => v = .bool true ∧ Lasts s.heap t.heap ∧ t.os = s.os ∧ t.gens = #[]) (fun _ _ => False) s) :
    ∃ n s', schedN (denote table) lRow.prog w n (.single s (callStub lRow.name vs)) = .halted (.done (.ret (.bool true))) s' ∧ Lasts s.heap s'.heap ∧ s'.os = s.os ∧ s'.heap.life = s.heap.life := by
  have tree : wpP Clean (model lRow.prog w) callerA (callStub lRow.name vs).cur
      (fun fin t => fin = .done (.ret (.bool true)) ∧ Lasts s.heap t.heap ∧ t.os = s.os ∧ t.gens = #[]) (fun _ _ => False) s := by
    refine wpP_bindA (wpAny_nsGet hn ?_)
    rw [hf]
    refine wpP_bind (wpP_mono walk ?_ fun _ _ no => no)
    rintro v t ⟨rfl, rest⟩
    exact wpP_pure ⟨rfl, rest⟩
  have lone := tree ⟨_, caller_in, stub_clean⟩ default
  obtain ⟨n, r, t, s', hs, hr, same, v, ht, ho⟩ := wp_halts_full (M := model lRow.prog w) (c := .builtin "claim.caller" {})
    (R := fun r t => r = .ok (.ret (.bool true)) ∧ Lasts s.heap t.heap ∧ t.os = s.os) awake
    (Sem.wp_mono _ _ _ (by rintro _ p t ⟨rfl, k, o, g⟩; exact ⟨⟨rfl, k, o⟩, by simp [leftWithCleanup, g]⟩) (fun _ _ _ no => no.elim) _ _ lone)
  subst v
  have eq := Shared.forget_eq same
  refine ⟨n, s', hs, ?_, ?_, runN_life _ _ _ hr⟩
  · rw [eq.1]; exact ht
  · rw [eq.2.2.2.1]; exact ho
/-- the law's claim, from where its top has run -/
theorem law_ends (walk : LawWalk) {w : World} {s₀ : Shared} (awake : s₀.asleep) (bare : s₀.gens = #[])
    (G : Ground lView [] [] (XL lView []) w s₀ (s₀.heap.nsMap mainGlobals) (s₀.heap.nsMap builtinsNs) s₀.heap) (Y : lHook.says w s₀.heap)
    {free : Addr → Prop} {kept : Heap → Prop} {gens : Prop} (hk : ∀ h, kept h) : lClaim.CallFrom (callStub lRow.name) w free gens kept s₀ := by
  intro xs fits lays ord perm
  -- the script is laid
  obtain ⟨⟨vs, s⟩, laid⟩ := Option.isSome_iff_exists.mp (layAllW_isSome (P := w.params) (ord := ord) G.has xs lRow.args s₀ (pre_splitW fits).1)
  have older := layAllW_keeps _ _ _ laid
  have alike := layAllW_rest _ _ _ laid
  obtain ⟨as, reads, fresh, there⟩ := reads_layAllW perm _ _ _ laid lays s.heap fun _ _ e => e
  have L : Laid [] w s₀ s xs vs as := { laid := ⟨ord, perm, laid⟩, reads := reads, within := fresh, old := there, keeps := older, gens := alike.1.trans bare, os := alike.2.2.1 }
  have G' := G.keeps XL.keeps older
  -- the law is walked
  obtain ⟨f, hf, run⟩ := walk w s₀ s xs vs as { ground := G', seen := lHook.keeps w _ _ Y older, fits := fits, lays := lays, laid := L, room := G.low }
  obtain ⟨n, s', sched, lasts, os, life⟩ := stub_ends (Shared.asleep_of_life alike.2.2.2 awake) G'.T.g hf run
  -- what it gave
  have good : GoodWG lClaim (classAt s₀.heap) (ExcName.means s₀.heap) xs s (.ok (.ret (.bool true))) { s with heap := s'.heap } :=
    ⟨.inl ⟨_, .bool true, [], rfl, fun _ => rfl, .bool _, by wrow_post, fun _ => ⟨.nil, nofun⟩⟩, .of_keep lasts, rfl, .of_eq L.gens⟩
  obtain ⟨ends, _⟩ := GoodWG.laid (c := lClaim) rfl rfl (fun a b => ident_freeW (r := lRow) rfl rfl rfl a b) L good
  rcases ends with ⟨v, e, raised, value, same, old, inner⟩ | ⟨_, _, _, e, _⟩
  · cases e
    exact ⟨vs, s, laid, n, _, s', sched, .inl ⟨_, rfl, raised, value, same, fun b o h _ => old b o h, inner⟩, fun _ i x h => by simp [bare] at h, hk _,
      by rw [life, alike.2.2.2], Shared.rest_eq (os.trans L.os)⟩
  · cases e
end Mine
end
section
open PySem PySem.W PyProof.Rows PySem.Calls PySem.Spec PySem.Challenge
set_option maxRecDepth 100000
namespace Mine
theorem lawLooks (w : World) (os : OsState) : lHook.obs { heap := Mine.hd.heap_1_184 w.params, toks := 394, os := os } = lHook.val w := by kernel_rfl
/-- how the top is left: by the head's own pieces, and the law's objects beside -/
theorem top_left : LeftO lRow.prog lView [] (fun s => xlAt lView [] s && recOk sepRow.records s) lHook.obs lHook.val 2210 := by
  refine LeftO.of_pieces (boot_open Mine.hd._proof_1_6 (of_decide_eq_true (id (Eq.refl true))) Mine.hd._proof_1_7) Mine.hd._proof_1_189 Mine.hd._proof_1_187 (of_decide_eq_true (id (Eq.refl true))) fun w => funext fun os => ?_
  have e := Mine.hd._proof_1_220 w os
  refine Prod.ext (congrArg (fun x => x.1) e) (Prod.ext (congrArg (fun x => x.2.1) e) (lawLooks w os))
set_option maxHeartbeats 1000000 in
theorem holdsP (walk : LawWalk) : rw_pd0128_01.Holds := by
  have chains : chainsOk lView = true := by kernel_rfl
  have opens : opensWell lRow.prog = true := by kernel_rfl
  have hdef : lRow.prog.theDef lRow.name = some (lawRec.1.1.params, lawRec.1.1.body, lawRec.1.1.scope) := by kernel_rfl
  have hkw : kwWritten? lawRec.1.1.params.kwonlyargs lawRec.1.1.params.kw_defaults = some lawRec.1.2 := by kernel_rfl
  have nobody : ∀ x, x ∉ lClaim.records := fun _ => List.not_mem_nil
  have wit : lRow.promised := ⟨[WData.list []], by kernel_rfl, by kernel_rfl⟩
  refine holds_law (by kernel_rfl) fun said => ⟨said, wit, ⟨⟨rfl, rfl, rfl, rfl, rfl, Mine.hd._proof_1_5⟩, opens, rfl⟩, wit.witness, fun w => ?_⟩
  obtain ⟨some_end, every_end⟩ := top_left.behind (XP := XL lView []) (fun s e => xl_of s (Bool.and_eq_true_iff.mp e).1) chains w
  refine ⟨some_end, fun s after => ?_⟩
  obtain ⟨s₀, fenced, nogens, s₁, ran, awake, bare, ns, G, Y⟩ := every_end s after
  refine ⟨s₀, fenced, nogens, s₁, ran, fun n hn => ?_, fun _ hx => (nobody _ hx).elim, fun _ hx => (nobody _ hx).elim, ?_⟩
  · obtain rfl := List.mem_singleton.mp hn
    exact pinned_of_view ns G lawRec.2 hdef hkw
  · exact law_ends walk awake (Array.eq_empty_of_size_eq_zero (by simpa using bare)) G (lHook.of w s₁ Y) fun _ e => nomatch e
end Mine
end
section
open PySem PySem.W PyProof.Rows PySem.Calls
set_option maxRecDepth 100000
namespace Mine
section
variable {P : Ctx → Prop} {prog : Program} {w : World} {A : Around} {E : Value → Shared → Prop} {s : Shared} {env : Env} {h₀ : Heap} {L : Addr} {m : Str → Option Value} {news : List (Addr × Obj)} {elt iter iter2 : Expr} {ifs : List Expr} {scope : Scope} {cl : List (Str × Addr)} {pos : Pos} {use : Option (Value → Sem Unit)} {Q : Value → Shared → Prop}
variable {I C D : Addr} {oI oD : Obj} {nw : List (Addr × Obj)} {mC mC' : Str → Option Value}
theorem eval_LCG (K : Kept P) {target : Expr} {gens : List Comprehension} (hclos : closureFor scope env = pure cl) (hkind : scope.kind = .function) (hnames : ∀ x ∈ scope.names, x.2 = .local → scope.names.lookup x.1 = some .local)
    (hs : ∀ x, foldedSetIterable iter env x = pure x)
    (h : wpP P (model prog w) A (eval iter env) (CGoal P prog w A E none Q (.ListComp elt (⟨target, iter, ifs, 0⟩ :: gens) scope pos) scope cl env) E s) :
    wpP P (model prog w) A (eval (.ListComp elt (⟨target, iter, ifs, 0⟩ :: gens) scope pos) env) Q E s := by
  rw [eval_ListComp]
  exact compP K rfl hs hclos hkind hnames h
/-- the block's frame has changed alone: the ledger beside it, the frame itself shown as an object -/
theorem beside_frame {h h' : Heap} (ap : Apart h₀ L I C D) (off : Off3 I C D nw) (F : Fr h₀ L h m) (N : News h₀ L h ((I, oI) :: (D, oD) :: nw)) (ns : h'.Ns C mC') (only : Heap.ExtBut C h h') (live : h'.Ns L m) :
    ∃ oC, LCg.NsObj oC mC' ∧ Fr h₀ L h' m ∧ News h₀ L h' ((I, oI) :: (C, oC) :: (D, oD) :: nw) := by
  obtain ⟨oC, at_, is⟩ := LCg.ns_obj ns
  have still : ∀ p, p ∈ (I, oI) :: (D, oD) :: nw → p.1 ≠ C → h'.get? p.1 = some p.2 ∧ p.1 ≠ L ∧ h₀.get? p.1 = none := fun p hp ne => ⟨only _ _ ne (N p hp).1, (N p hp).2⟩
  refine ⟨oC, is, ⟨live, fun b o e => only b o (fun q => ?_) (F.keep b o e), F.above⟩, fun p hp => ?_⟩
  · subst q; rw [ap.c0] at e; cases e
  · rcases List.mem_cons.mp hp with rfl | hp
    · exact still _ (.head _) ap.ic
    · rcases List.mem_cons.mp hp with rfl | hp
      · exact ⟨at_, ap.cl, ap.c0⟩
      · refine still p (.tail _ hp) ?_
        rcases List.mem_cons.mp hp with rfl | hp
        · exact Ne.symm ap.cd
        · exact (off p hp).2.1
/-- a name of the block is bound -/
theorem bind_name {x : Str} {px : Pos} {v : Value} {q : Shared → Prop} (hx : scope.names.lookup x = some .local) (hkind : scope.kind = .function) (ap : Apart h₀ L I C D) (off : Off3 I C D nw)
    (F : Fr h₀ L s.heap m) (ns : s.heap.Ns C mC) (N : News h₀ L s.heap ((I, oI) :: (D, oD) :: nw))
    (h : ∀ h' tk oC, LCg.NsObj oC (fun z => if z = x then some v else mC z) → Fr h₀ L h' m → News h₀ L h' ((I, oI) :: (C, oC) :: (D, oD) :: nw) → q { s with heap := h', toks := tk }) :
    wpAny (model prog w) A (assign (.Name x px) (compEnvC scope cl C env) v) (fun _ => q) E s := by
  refine wpAny_assign_Name (wpAny_storeName_local (lookup_relabel_local hx) ns (fun h' ns' only => ?_) (by simp [compEnvC, relabel, hkind]))
  obtain ⟨oC, is, F', N'⟩ := beside_frame ap off F N ns' only.extBut (F.change only ap.cl ap.c0).ns
  exact h h' _ oC is F' N'
/-- a pair of names is bound to a tuple of two -/
theorem bind_pair {x y : Str} {px py tp : Pos} {kk : Nat} {t : Addr} {v₁ v₂ : Value} {nt : Nat} {q : Shared → Prop} (hx : scope.names.lookup x = some .local) (hy : scope.names.lookup y = some .local) (hkind : scope.kind = .function) (hh : A.handled = none)
    (src : ∃ l j, s.heap.IsListIter I l j) (hm : (t, tupObj [v₁, v₂] nt) ∈ nw) (ap : Apart h₀ L I C D) (off : Off3 I C D nw)
    (F : Fr h₀ L s.heap m) (ns : s.heap.Ns C mC) (N : News h₀ L s.heap ((I, oI) :: (D, oD) :: nw))
    (h : ∀ h' tk oC, LCg.NsObj oC (fun z => if z = y then some v₂ else if z = x then some v₁ else mC z) → Fr h₀ L h' m → News h₀ L h' ((I, oI) :: (C, oC) :: (D, oD) :: nw) → q { s with heap := h', toks := tk }) :
    wpAny (model prog w) A (letOwnedTupleGo (.Tuple [.Name x px, .Name y py] kk tp) (.ref I) (.ref t)) (fun _ => wpAny (model prog w) A (assign (.Tuple [.Name x px, .Name y py] kk tp) (compEnvC scope cl C env) (.ref t)) (fun _ => q) E) E s := by
  obtain ⟨l, j, it⟩ := src
  have two : s.heap.IsTuple t #[v₁, v₂] := ⟨_, (N _ (.tail _ (.tail _ hm))).1, rfl, _, rfl⟩
  refine wpAny_letOwnedTupleGo_listiter it (kcp_assign hh two (lookup_relabel_local hx) (lookup_relabel_local hy) (by simp [compEnvC, relabel, hkind]) ns fun h' tk ns' old => ?_)
  obtain ⟨oC, is, F', N'⟩ := beside_frame ap off F N ns' (fun b o ne e => old b o ne e) (F.ns.at' fun o e => old _ o (Ne.symm ap.cl) e)
  exact h h' _ oC is F' N'
/-- one turn over pairs -/
abbrev CStep2 (P : Ctx → Prop) (prog : Program) (w : World) (A : Around) (env : Env) (elt : Expr) (ifs : List Expr) (x y : Str) (scope : Scope) (cl : List (Str × Addr)) (h₀ : Heap) (L : Addr) (m : Str → Option Value) (s : Shared) (v₁ v₂ : Value) (ys : List Value) (nw : List (Addr × Obj)) (J : List Value → List (Addr × Obj) → Prop) : Prop :=
  ∀ h₁ tk₁ I oI C oC D m₂, Off3 I C D nw → (@Ne Nat I C ∧ @Ne Nat I D ∧ @Ne Nat C D) → LCg.NsObj oC m₂ → m₂ x = some v₁ → m₂ y = some v₂ → Fr h₀ L h₁ m → News h₀ L h₁ ((I, oI) :: (C, oC) :: (D, lstN ys) :: nw) →
    CTurn P prog w A (compEnvC scope cl C env) elt ifs h₀ L m s I oI C oC D ys J { s with heap := h₁, toks := tk₁ }
theorem comp_pair (K : Kept P) {a : Addr} {vs : List Value} {k : Nat} {x y : Str} {px py tp : Pos} {kk : Nat} (hh : A.handled = none) (hcell : ∀ z ∈ scope.names, z.2 ≠ .cell) (hkind : scope.kind = .function) (hx : scope.names.lookup x = some .local) (hy : scope.names.lookup y = some .local) (hxy : x ≠ y)
    (F : Fr h₀ L s.heap m) (N : News h₀ L s.heap news) (hm : (a, lstObj vs k) ∈ news) (hsz : vs.length < 1000000)
    (J : Nat → List Value → List (Addr × Obj) → Prop) (hkeep : ∀ i ys nw, J i ys nw → (a, lstObj vs k) ∈ nw) (hlen : ∀ i ys nw, J i ys nw → ys.length ≤ i) (h0 : J 0 [] news)
    (turn : ∀ i v ys nw, vs[i]? = some v → J i ys nw → ∃ t v₁ v₂ nt, v = .ref t ∧ (t, tupObj [v₁, v₂] nt) ∈ nw ∧ CStep2 P prog w A env elt ifs x y scope cl h₀ L m s v₁ v₂ ys nw (J (i + 1)))
    (fin : ∀ ys nw, J vs.length ys nw → CFin (model prog w) A E use Q h₀ L m s ys nw) :
    CGoal P prog w A E use Q (.ListComp elt [⟨.Tuple [.Name x px, .Name y py] kk tp, iter, ifs, 0⟩] scope pos) scope cl env (.ref a) s := by
  have lst : s.heap.IsList a vs.toArray := ⟨_, (N _ hm).1, rfl, _, rfl⟩
  have W := Walks.list (prog := prog) (w := w) (A := A) hh s.heap.objs.size a (Nat.ne_of_lt (Heap.lt_size (N _ hm).1)) vs.toArray
  have grown : ∀ b ob, s.heap.get? b = some ob → (s.heap.push { cls := .type "list_iterator", data := .fields #[.ref a, .int 0 0] }).get? b = some ob := fun b ob e => Heap.get?_push_of_some _ e
  have new := fresh_I F
  refine wpAny_pyIter_list lst (open_block (s := { s with heap := s.heap.push { cls := .type "list_iterator", data := .fields #[.ref a, .int 0 0] } }) K (o := lstN []) (gs := []) (fun _ q => wpAny_newObj_type q) rfl rfl rfl (fun _ _ => ⟨rfl, rfl, rfl⟩) (fun _ _ => rfl) W (fun i h st => st.1.imp fun _ e => e.1) hcell hkind
    ⟨⟨_, Heap.get?_push_size _ rfl, rfl, rfl⟩, lst.at fun o e => grown _ o e⟩ (F.keeps grown) (N.grown grown) (fun p hp => Nat.ne_of_lt (Heap.lt_size (N p hp).1)) ?_)
  intro C D h₁ tk₁ m₁ ap st₁ F₁ ns₁ N₁ off₁
  refine comp_ledger (s := { s with heap := h₁, toks := tk₁ }) K (keep := [(a, lstObj vs k)]) ⟨rfl, rfl, rfl⟩ rfl (list_opens rfl rfl) W (fun i h st => st.1.imp fun _ e => e.1) ap new.1 new.2 (fun i => OfList fun _ => J i)
    (fun i _ _ nw ⟨ys, _, q⟩ p hp => List.mem_singleton.mp hp ▸ hkeep i ys nw q) ?_ ?_ st₁ F₁ ns₁ N₁ off₁ ⟨[], rfl, h0⟩
  · rintro i v m' _ nw h₂ tk₂ oI lt hv st₂ ⟨ys, rfl, hJ⟩ off₂ F₂ ns₂ N₂ q on
    obtain ⟨t, v₁, v₂, nt, rfl, hm₂, step⟩ := turn i v ys nw (by simpa using hv) hJ
    refine bind_pair (s := { s with heap := h₂, toks := tk₂ }) hx hy hkind hh ⟨_, _, st₂.1⟩ hm₂ ap off₂ F₂ ns₂ N₂ fun h₃ tk₃ oC is F₃ N₃ => ?_
    have short : ys.length ≤ 1000000 := by
      have := hlen i ys nw hJ
      have : i < vs.length := by simpa using lt
      omega
    exact CTurn.left (b := { s with heap := h₁, toks := tk₁ }) ap.id ap.cd is short on (step h₃ tk₃ _ oI C oC D _ off₂ ⟨ap.ic, ap.id, ap.cd⟩ is (by simp [hxy]) (by simp) F₃ N₃)
  · rintro h tk m' _ nw F' ns' N' off' ⟨ys, rfl, hJ⟩
    exact ⟨⟨_, rfl⟩, fin ys nw (by simpa using hJ) C D h tk m' ⟨ap.cd, ap.cl, ap.dl, ap.c0, ap.d0⟩ F' N' (fun p hp => ⟨(off' p hp).2.2, (off' p hp).2.1⟩) ns'⟩
end
end Mine
end
section
open PySem PySem.W PyProof.Rows PySem.Calls
set_option maxRecDepth 100000
namespace Mine
section
variable {P : Ctx → Prop} {prog : Program} {w : World} {A : Around} {E : Value → Shared → Prop} {s : Shared} {env : Env} {h₀ : Heap} {L : Addr} {m : Str → Option Value} {news : List (Addr × Obj)} {elt iter iter2 : Expr} {ifs : List Expr} {scope : Scope} {cl : List (Str × Addr)} {pos : Pos} {use : Option (Value → Sem Unit)} {Q : Value → Shared → Prop}
/-- what is asked of an item that the clause ahead of the last takes (no tests): its name bound, the last clause's source opened, that clause's block run -/
noncomputable def Into (P : Ctx → Prop) (prog : Program) (w : World) (A : Around) (target src e : Expr) (acc : Value) (env : Env) (it v : Value) (q : Shared → Prop) : Shared → Prop :=
  wpAny (model prog w) A (letOwnedTupleGo target it v) (fun _ => wpAny (model prog w) A (assign target env v) (fun _ => wpP P (model prog w) A (eval src env) (fun x => wpAny (model prog w) A (foldedSetIterable src env x) (fun x' => wpAny (model prog w) A (pyIter x') (fun it₂ =>
    codeP P (model prog w) A (.compStart e 1 it₂ acc env) fun r t => (∃ f, r = .ok f) ∧ q t) fun _ _ => False) fun _ _ => False) fun _ _ => False) fun _ _ => False) fun _ _ => False
theorem first_opens (K : Kept P) {tx ty : Expr} {I : Addr} {acc : Value} (Q : Fin → Shared → Prop) (t : Shared)
    (h : wpAny (model prog w) A (pyNext (.ref I)) (fun r t' => r.elim (Q (.done .next) t') fun v => Into P prog w A tx iter2 (.ListComp elt [⟨tx, iter, [], 0⟩, ⟨ty, iter2, ifs, 0⟩] scope pos) acc env (.ref I) v (Q (.again (.compLoop (.ListComp elt [⟨tx, iter, [], 0⟩, ⟨ty, iter2, ifs, 0⟩] scope pos) 0 (.ref I) acc env))) t') (fun _ _ => False) t) :
    wpP P (model prog w) A (compTurn (.ListComp elt [⟨tx, iter, [], 0⟩, ⟨ty, iter2, ifs, 0⟩] scope pos) 0 (.ref I) acc env) Q (fun _ _ => False) t := by
  unfold compTurn
  simp only [List.getElem?_cons_zero, List.getElem?_cons_succ, Nat.zero_add, bne_self_eq_false, Bool.false_eq_true, if_false, List.forIn_nil, pure_bind, if_true]
  refine wpP_bind (wpP_standAt (wpP_bindA (wpAny_mono h ?_ fun _ _ e => e)))
  rintro (_ | v) t' q
  · exact wpP_pure q
  refine wpP_bindA (wpAny_mono q ?_ fun _ _ e => e)
  intro _ t₁ q₁
  refine wpP_bindA (wpAny_mono q₁ ?_ fun _ _ e => e)
  intro _ t₂ q₂
  refine wpP_bind (wpP_mono q₂ ?_ fun _ _ e => e)
  intro x t₃ q₃
  refine wpP_bind (wpP_standAt (wpP_bindA (wpAny_mono q₃ ?_ fun _ _ e => e)))
  intro x' t₄ q₄
  refine wpP_bindA (wpAny_holding (wpAny_mono q₄ ?_ fun _ _ e => e))
  intro it₂ t₅ q₅
  refine wpP_bind (wpP_runOwn K rfl (codeP_mono q₅ ?_))
  rintro _ t₆ ⟨⟨f, rfl⟩, q₆⟩
  exact wpP_pure q₆
variable {I₁ C D : Addr} {o₁ oC : Obj} {ys : List Value} {nw : List (Addr × Obj)} {mC : Str → Option Value} {x y : Str} {px py : Pos}
/-- the ledger inside the last clause's block -/
abbrev Led2 (I₂ : Addr) (o₂ : Obj) (C : Addr) (oC : Obj) (D : Addr) (ys : List Value) (I₁ : Addr) (o₁ : Obj) (nw : List (Addr × Obj)) : List (Addr × Obj) := (I₂, o₂) :: (C, oC) :: (D, lstN ys) :: (I₁, o₁) :: nw
/-- behind the element: one new thing q stands ahead of the ledger -/
noncomputable def Pend2 (h₀ : Heap) (L : Addr) (m : Str → Option Value) (s : Shared) (led : List (Addr × Obj)) (J : Value → (Addr × Obj) → Prop) (y : Value) (t : Shared) : Prop :=
  ∃ q, (∃ h tk, t = { s with heap := h, toks := tk }) ∧ (Fr h₀ L t.heap m ∧ News h₀ L t.heap (q :: led)) ∧ (∀ p ∈ led, p.1 ≠ q.1) ∧ J y q
/-- behind a test that is not met: the ledger alone -/
noncomputable def Send2 (h₀ : Heap) (L : Addr) (m : Str → Option Value) (s : Shared) (led : List (Addr × Obj)) (t : Shared) : Prop :=
  (∃ h tk, t = { s with heap := h, toks := tk }) ∧ Fr h₀ L t.heap m ∧ News h₀ L t.heap led
theorem Pend2.intro {led : List (Addr × Obj)} {J : Value → (Addr × Obj) → Prop} {y : Value} {h' : Heap} {tk : Nat} {q : Addr × Obj} (F : Fr h₀ L h' m) (N : News h₀ L h' (q :: led)) (off : ∀ p ∈ led, p.1 ≠ q.1) (hJ : J y q) : Pend2 h₀ L m s led J y { s with heap := h', toks := tk } := ⟨q, ⟨h', tk, rfl⟩, ⟨F, N⟩, off, hJ⟩
theorem Send2.intro {led : List (Addr × Obj)} {h' : Heap} {tk : Nat} (F : Fr h₀ L h' m) (N : News h₀ L h' led) : Send2 h₀ L m s led { s with heap := h', toks := tk } := ⟨⟨h', tk, rfl⟩, F, N⟩
/-- a turn of the last clause: the ledger is the block's, and outside it the first clause's iterator I₁ -/
abbrev Turn2 (P : Ctx → Prop) (prog : Program) (w : World) (A : Around) (env : Env) (elt : Expr) (ifs : List Expr) (scope : Scope) (cl : List (Str × Addr)) (h₀ : Heap) (L : Addr) (m : Str → Option Value) (s : Shared) (x y : Str) (xv yv : Value) (ys : List Value) (nw : List (Addr × Obj)) (J : List Value → List (Addr × Obj) → Prop) : Prop :=
  ∀ h₁ tk₁ I₁ o₁ I₂ o₂ C oC D m₂, Off3 I₂ C D nw → Off3 I₁ C D nw → (@Ne Nat I₂ C ∧ @Ne Nat I₂ D ∧ @Ne Nat C D ∧ @Ne Nat I₁ I₂ ∧ @Ne Nat I₁ C ∧ @Ne Nat I₁ D) → LCg.NsObj oC m₂ → m₂ x = some xv → m₂ y = some yv → Fr h₀ L h₁ m → News h₀ L h₁ (Led2 I₂ o₂ C oC D ys I₁ o₁ nw) →
    wpP P (model prog w) A (TestsOf ifs (compEnvC scope cl C env)) (fun ok t => if ok = true then
        wpP P (model prog w) A (eval elt (compEnvC scope cl C env)) (Pend2 h₀ L m s (Led2 I₂ o₂ C oC D ys I₁ o₁ nw) (fun y q => J (ys ++ [y]) (q :: nw))) (fun _ _ => False) t
      else Send2 h₀ L m s (Led2 I₂ o₂ C oC D ys I₁ o₁ nw) t ∧ J ys nw) (fun _ _ => False) { s with heap := h₁, toks := tk₁ }
/-- between the turns of the last clause: I₁ heads the ledger, x is still bound -/
noncomputable def Inner (I₁ : Addr) (o₁ : Obj) (C D : Addr) (x : Str) (xv : Value) (J : List Value → List (Addr × Obj) → Prop) (mC : Str → Option Value) (ys : List Value) (led : List (Addr × Obj)) : Prop :=
  ∃ nw, led = (I₁, o₁) :: nw ∧ Off3 I₁ C D nw ∧ mC x = some xv ∧ J ys nw
/-- the last clause's block over a range -/
theorem last_clause (K : Kept P) {xv : Value} {tx : Expr} {a b c : Int} {r : Addr} {t u v : Tok} {n : Nat} (hh : A.handled = none) (hkind : scope.kind = .function) (hy : scope.names.lookup y = some .local) (hxy : x ≠ y)
    (small : Builtin.Range.small a b c = true) (size : Builtin.Range.rangeSize a b c = (n : Int)) (range : IsRange s.heap r a b c t u v) (ap : Apart h₀ L I₁ C D)
    (F : Fr h₀ L s.heap m) (hoC : LCg.NsObj oC mC) (bound : mC x = some xv) (N : News h₀ L s.heap ((I₁, o₁) :: (C, oC) :: (D, lstN ys) :: nw)) (off : Off3 I₁ C D nw)
    (J : Nat → List Value → List (Addr × Obj) → Prop) (hlen : ∀ j ys nw, J j ys nw → ys.length ≤ 1000000) (h0 : J 0 ys nw)
    (turn : ∀ j t ys nw, j < n → J j ys nw → Turn2 P prog w A env elt ifs scope cl h₀ L m s x y xv (.int (a + j * c) t) ys nw (J (j + 1))) :
    wpAny (model prog w) A (pyIter (.ref r)) (fun it => codeP P (model prog w) A (.compStart (.ListComp elt [⟨tx, iter, [], 0⟩, ⟨.Name y py, iter2, ifs, 0⟩] scope pos) 1 it (.ref D) (compEnvC scope cl C env)) fun r t => (∃ f, r = .ok f) ∧ Left h₀ L m s I₁ o₁ C D (OfList fun _ => J n) t) (fun _ _ => False) s := by
  refine wpAny_pyIter_range range small ?_
  generalize hI : ({ cls := .type "range_iterator", data := .fields #[rawInt a, rawInt (Builtin.Range.rangeSize a b c), rawInt c] } : Obj) = oI
  have grown : ∀ b ob, s.heap.get? b = some ob → (s.heap.push oI).get? b = some ob := fun b ob e => Heap.get?_push_of_some _ e
  obtain ⟨I, here⟩ : ∃ I, I = s.heap.objs.size := ⟨_, rfl⟩
  have under : ∀ p ∈ (I₁, o₁) :: (C, oC) :: (D, lstN ys) :: nw, p.1 ≠ I := fun p hp => here ▸ Nat.ne_of_lt (Heap.lt_size (N p hp).1)
  have ap₂ : Apart h₀ L I C D := { ap with ic := Ne.symm (under (C, oC) (.tail _ (.head _))), id := Ne.symm (under (D, lstN ys) (.tail _ (.tail _ (.head _)))) }
  have st : IsRangeIter (s.heap.push oI) I (a + ((0 : Nat) : Int) * c) ((n : Int) - ((0 : Nat) : Int)) c := by
    subst here hI
    show IsRangeIter _ _ _ _ _
    rw [size]
    simpa using Heap.get?_push_size _ rfl
  have new := fresh_I F
  rw [← here] at new ⊢
  have W := Walks.range (prog := prog) (w := w) hh I a c n
  have N₂ := N.grown grown
  have order : ∀ p ∈ (D, lstN ys) :: (I₁, o₁) :: nw, p ∈ (I₁, o₁) :: (C, oC) :: (D, lstN ys) :: nw := by
    intro p hp
    simp only [List.mem_cons] at hp ⊢
    rcases hp with e | e | e
    · exact .inr (.inr (.inl e))
    · exact .inl e
    · exact .inr (.inr (.inr e))
  have off₂ : Off3 I C D ((I₁, o₁) :: nw) := fun p hp => by
    refine ⟨under p (order p (.tail _ hp)), ?_⟩
    rcases List.mem_cons.mp hp with rfl | hp
    · exact ⟨ap.ic, ap.id⟩
    · exact (off p hp).2
  refine comp_begin K rfl rfl ⟨rfl, rfl, rfl⟩ (fun Q q => W.self 0 { s with heap := s.heap.push oI } Q _ st q) rfl ?_
  refine comp_ledger (s := { s with heap := s.heap.push oI }) K (keep := []) ⟨rfl, rfl, rfl⟩ rfl (list_opens rfl rfl) W (fun _ _ q => ⟨_, q⟩) ap₂ new.1 new.2
    (fun j => OfList (Inner I₁ o₁ C D x xv (J j))) (fun _ _ _ _ _ _ no => nomatch no) ?_ ?_ st (F.keeps grown) (hoC.ns (N₂ (C, oC) (.tail _ (.head _))).1) (fun p hp => N₂ p (order p hp)) off₂ ⟨ys, rfl, nw, rfl, off, bound, h0⟩
  · rintro j _ mC _ _ h₂ tk₂ o₂ lt ⟨t', rfl⟩ - ⟨zs, rfl, nz, rfl, offz, boundz, hJ⟩ offs F₂ ns₂ M₂ q on
    refine wpAny_pure (bind_name (s := { s with heap := h₂, toks := tk₂ }) hy hkind ap₂ offs F₂ ns₂ M₂ fun h₃ tk₃ oC₃ is F₃ M₃ => ?_)
    have bound₃ : (fun z => if z = y then some (Value.int (a + j * c) t') else mC z) x = some xv := by simp only [hxy, if_false]; exact boundz
    refine wpP_mono (turn j t' zs nz lt hJ h₃ tk₃ I₁ o₁ I o₂ C oC₃ D _ (fun p hp => offs p (.tail _ hp)) offz ⟨ap₂.ic, ap₂.id, ap.cd, (offs _ (.head _)).1, ap.ic, ap.id⟩ is bound₃ (if_pos rfl) F₃ M₃) ?_ fun _ _ e => e
    rintro (_ | _) t₄ q₄
    · rw [if_neg (by decide)] at q₄ ⊢
      obtain ⟨⟨⟨h₄, tk₄, rfl⟩, F₄, M₄⟩, hJ₄⟩ := q₄
      refine on _ ⟨_, lstN zs, (I₁, o₁) :: nz, ⟨_, _, rfl⟩, ⟨F₄, is.ns (M₄ (C, oC₃) (.tail _ (.head _))).1, fun p hp => M₄ p ?_⟩, offs, zs, rfl, nz, rfl, offz, bound₃, hJ₄⟩
      rcases List.mem_cons.mp hp with rfl | hp
      · exact .head _
      · exact .tail _ (.tail _ hp)
    · rw [if_pos rfl] at q₄ ⊢
      refine emit_list ap₂.id ap.cd is (hlen _ _ _ hJ) on (wpP_mono q₄ ?_ fun _ _ e => e)
      rintro y' t₅ ⟨q, ⟨h₅, tk₅, rfl⟩, ⟨F₅, M₅⟩, apart, hJ₅⟩
      have q₁ := apart (I, o₂) (.head _)
      have q₂ := apart (C, oC₃) (.tail _ (.head _))
      have q₃ := apart (D, lstN zs) (.tail _ (.tail _ (.head _)))
      have q₄ := apart (I₁, o₁) (.tail _ (.tail _ (.tail _ (.head _))))
      refine CEnd.intro ((I₁, o₁) :: q :: nz) F₅ M₅ ?_ ?_ ⟨q :: nz, rfl, ?_, bound₃, hJ₅⟩
      · intro p hp
        simp only [List.mem_cons] at hp ⊢
        rcases hp with e | e | e | e | e | e
        · exact .inr (.inl e)
        · exact .inr (.inr (.inl e))
        · exact .inr (.inr (.inr (.inl e)))
        · exact .inr (.inr (.inr (.inr (.inl e))))
        · exact .inl e
        · exact .inr (.inr (.inr (.inr (.inr e))))
      · intro p hp
        simp only [List.mem_cons] at hp
        rcases hp with rfl | rfl | hp
        · exact offs _ (.head _)
        · exact ⟨Ne.symm q₁, Ne.symm q₂, Ne.symm q₃⟩
        · exact offs p (.tail _ hp)
      · intro p hp
        rcases List.mem_cons.mp hp with rfl | hp
        · exact ⟨Ne.symm q₄, Ne.symm q₂, Ne.symm q₃⟩
        · exact offz p hp
  · rintro h tk mC _ _ F' ns' N' off' ⟨zs, rfl, nz, rfl, offz, -, hJ⟩
    refine ⟨⟨_, rfl⟩, mC, lstN zs, nz, ⟨h, tk, rfl⟩, ⟨F', ns', fun p hp => N' p ?_⟩, offz, zs, rfl, hJ⟩
    rcases List.mem_cons.mp hp with rfl | hp
    · exact .tail _ (.head _)
    · rcases List.mem_cons.mp hp with rfl | hp
      · exact .head _
      · exact .tail _ (.tail _ hp)
/-- a list comprehension of two clauses, both over ranges -/
theorem comp_two (K : Kept P) {a b c : Int} {r : Addr} {t u v : Tok} {n : Nat} {a2 b2 c2 : Nat → Int} {n2 : Nat → Nat} (hh : A.handled = none) (hcell : ∀ z ∈ scope.names, z.2 ≠ .cell) (hkind : scope.kind = .function) (hx : scope.names.lookup x = some .local) (hy : scope.names.lookup y = some .local) (hxy : x ≠ y)
    (hsm : Builtin.Range.small a b c = true) (hn : Builtin.Range.rangeSize a b c = (n : Int)) (hr : IsRange s.heap r a b c t u v) (hs2 : ∀ x e, foldedSetIterable iter2 e x = pure x)
    (F : Fr h₀ L s.heap m) (N : News h₀ L s.heap news)
    (J : Nat → List Value → List (Addr × Obj) → Prop) (JJ : Nat → Nat → List Value → List (Addr × Obj) → Prop) (hlen : ∀ i j ys nw, JJ i j ys nw → ys.length + 1 ≤ 1000000) (h0 : J 0 [] news)
    (src : ∀ i t ys nw, i < n → J i ys nw → ∀ h₁ tk₁ I oI C oC D m₂, Off3 I C D nw → (@Ne Nat I C ∧ @Ne Nat I D ∧ @Ne Nat C D) → LCg.NsObj oC m₂ → m₂ x = some (.int (a + i * c) t) → Fr h₀ L h₁ m → News h₀ L h₁ ((I, oI) :: (C, oC) :: (D, lstN ys) :: nw) →
      wpP P (model prog w) A (eval iter2 (compEnvC scope cl C env)) (RngAt h₀ L m ((I, oI) :: (C, oC) :: (D, lstN ys) :: nw) s (a2 i) (b2 i) (c2 i)) (fun _ _ => False) { s with heap := h₁, toks := tk₁ })
    (hsm2 : ∀ i, i < n → Builtin.Range.small (a2 i) (b2 i) (c2 i) = true) (hn2 : ∀ i, i < n → Builtin.Range.rangeSize (a2 i) (b2 i) (c2 i) = (n2 i : Int))
    (in0 : ∀ i ys nw, i < n → J i ys nw → JJ i 0 ys nw)
    (step : ∀ i j t t' ys nw, i < n → j < n2 i → JJ i j ys nw → Turn2 P prog w A env elt ifs scope cl h₀ L m s x y (.int (a + i * c) t) (.int (a2 i + j * c2 i) t') ys nw (JJ i (j + 1)))
    (out : ∀ i ys nw, i < n → JJ i (n2 i) ys nw → J (i + 1) ys nw)
    (fin : ∀ ys nw, J n ys nw → CFin (model prog w) A E use Q h₀ L m s ys nw) :
    CGoal P prog w A E use Q (.ListComp elt [⟨.Name x px, iter, [], 0⟩, ⟨.Name y py, iter2, ifs, 0⟩] scope pos) scope cl env (.ref r) s := by
  refine wpAny_pyIter_range hr hsm ?_
  generalize hI : ({ cls := .type "range_iterator", data := .fields #[rawInt a, rawInt (Builtin.Range.rangeSize a b c), rawInt c] } : Obj) = oI
  have grown : ∀ b ob, s.heap.get? b = some ob → (s.heap.push oI).get? b = some ob := fun b ob e => Heap.get?_push_of_some _ e
  have st : IsRangeIter (s.heap.push oI) s.heap.objs.size (a + ((0 : Nat) : Int) * c) ((n : Int) - ((0 : Nat) : Int)) c := by
    subst hI
    show IsRangeIter _ _ _ _ _
    rw [hn]
    simpa using Heap.get?_push_size _ rfl
  have new := fresh_I F
  have W := Walks.range (prog := prog) (w := w) hh s.heap.objs.size a c n
  refine open_block (s := { s with heap := s.heap.push oI }) K (o := lstN []) (gs := [⟨.Name y py, iter2, ifs, 0⟩]) (fun _ q => wpAny_newObj_type q) rfl rfl rfl (fun _ _ => ⟨rfl, rfl, rfl⟩) (fun _ _ => rfl) W (fun _ _ q => ⟨_, q⟩) hcell hkind st (F.keeps grown) (N.grown grown)
    (fun p hp => Nat.ne_of_lt (Heap.lt_size (N p hp).1)) ?_
  intro C D h₁ tk₁ m₁ ap st₁ F₁ ns₁ N₁ off₁
  refine comp_ledger (s := { s with heap := h₁, toks := tk₁ }) K (keep := []) ⟨rfl, rfl, rfl⟩ rfl (first_opens K) W (fun _ _ q => ⟨_, q⟩) ap new.1 new.2 (fun i => OfList fun _ => J i) (fun _ _ _ _ _ _ no => nomatch no) ?_ ?_ st₁ F₁ ns₁ N₁ off₁ ⟨[], rfl, h0⟩
  · rintro i _ mC _ nw h₂ tk₂ o₁ lt ⟨t₁, rfl⟩ - ⟨ys, rfl, hJ⟩ off₂ F₂ ns₂ N₂ q on
    refine wpAny_pure (bind_name (s := { s with heap := h₂, toks := tk₂ }) hx hkind ap off₂ F₂ ns₂ N₂ fun h₃ tk₃ oC is F₃ N₃ => ?_)
    refine wpP_mono (src i t₁ ys nw lt hJ h₃ tk₃ _ o₁ C oC D _ off₂ ⟨ap.ic, ap.id, ap.cd⟩ is (if_pos rfl) F₃ N₃) ?_ fun _ _ e => e
    rintro _ _ ⟨⟨r₂, t₂, u₂, v₂, rfl, range⟩, ⟨F₄, N₄⟩, h₄, tk₄, rfl⟩
    refine wpAny_of_eq (hs2 _ _) (wpAny_mono (last_clause (s := { s with heap := h₄, toks := tk₄ }) K (iter := iter) (iter2 := iter2) (pos := pos) (py := py) (tx := .Name x px) (xv := .int (a + i * c) t₁) hh hkind hy hxy (hsm2 i lt) (hn2 i lt) range ap F₄ is (if_pos rfl) N₄ off₂ (JJ i) (fun j ys nw q => Nat.le_of_succ_le (hlen i j ys nw q)) (in0 i ys nw lt hJ) fun j t' ys nw ltj q => step i j t₁ t' ys nw lt ltj q) ?_ fun _ _ e => e)
    intro it₂ t₅ q₅
    refine codeP_mono q₅ ?_
    rintro _ t₆ ⟨ok, mC', oD', nw', put, here, off₆, zs, rfl, hJ₆⟩
    exact ⟨ok, on _ ⟨mC', _, nw', put, here, off₆, zs, rfl, out i zs nw' lt hJ₆⟩⟩
  · rintro h tk mC _ nw F' ns' N' off' ⟨ys, rfl, hJ⟩
    exact ⟨⟨_, rfl⟩, fin ys nw hJ C D h tk mC ⟨ap.cd, ap.cl, ap.dl, ap.c0, ap.d0⟩ F' N' (fun p hp => ⟨(off' p hp).2.2, (off' p hp).2.1⟩) ns'⟩
end
end Mine
end
section
open PySem PySem.W PyProof.Rows PySem.Calls
set_option maxRecDepth 100000
namespace Mine
/-- the table of {False} -/
abbrev tabF (led : Bool) : SetTable := { mask := 7, place := #[0], dummies := #[], finger := 0, led := led, moves := 0, plain := true }
abbrev setE (led : Bool) : Obj := { cls := .type "set", dict := none, data := .set #[] 0 (.fresh 0 0 led) }
abbrev setF (led : Bool) : Obj := { cls := .type "set", dict := none, data := .set #[(0, .bool false)] 1 (tabF led) }
theorem lay_F (led : Bool) : layNew (.fresh 0 0 led) #[] 0 (.bool false) = (#[(0, .bool false)], tabF led, false, false) := by cases led <;> rfl
theorem full_F (led : Bool) : (tabF led).tooFull = false := by cases led <;> rfl
section
variable {prog : Program} {w : World} {A : Around} {E : Value → Shared → Prop} {s : Shared} {a : Addr} {led : Bool}
theorem hash_F {Q : Int → Shared → Prop} (h : ∀ tk, Q 0 { s with toks := tk }) : wpAny (model prog w) A (pyHash (.bool false)) Q E s := by
  have T := PySem.typeIs_bool s false
  have slot := F.slot_bool_hash
  have given : ∀ Q' : Value → Shared → Prop, Q' (.int 0 s.toks) { s with toks := s.toks + 1 } → wpAny (model prog w) A (call (.builtin "int.__hash__") [.bool false]) Q' E s := fun Q' q =>
    wpAny_call_entry slot T F.entry_int_hash (wpAny_ret_mkInt q : wpAny _ _ (mkInt 0 >>= fun v => ret v) _ _ s) (F.args_int_hash_1 _)
  show wpAny _ _ (pyHashByItsType (.bool false)) Q E s
  unfold pyHashByItsType
  refine wpAny_bind (wpAny_of_eq (a := ()) rfl (wpAny_bind (wpAny_specialOf T slot.lookup ?_)))
  simp only [show (some (Value.builtin "int.__hash__") == some Value.none) = false from rfl, Bool.false_eq_true, if_false]
  refine wpAny_bind (wpAny_specialOf T slot.lookup ?_)
  simp only [Option.isNone_some, Bool.false_eq_true, if_false]
  refine wpAny_bind (wpAny_callSpecialIfBoundUnlessNone?_slot T slot (given _ ?_))
  exact wpAny_of_eq (a := 0) rfl (h _)
theorem eqBool_F {Q : Bool → Shared → Prop} (h : Q true s) : wpAny (model prog w) A (eqBool (.bool false) (.bool false)) Q E s := by
  unfold eqBool
  refine wpAny_holding ?_
  rw [if_pos (by decide)]
  exact wpAny_bind (wpAny_rule (wpAny_pure h))
theorem typeIs_set (ho : s.heap.get? a = some (setF led)) : s.TypeIs (.ref a) "set" := ⟨_, ho, rfl⟩
/-- set.add is setAdd, and None -/
theorem set_add {v : Value} {Q : Value → Shared → Prop} (T : s.TypeIs (.ref a) "set") (h : wpAny (model prog w) A.in1 (setAdd a v) (fun _ t => Q .none t) E s) :
    wpAny (model prog w) A (call (.builtin "set.add") [.ref a, v]) Q E s := by
  refine wpAny_call_entry F.slot_set_add T F.entry_set_add ?_ (F.args_set_add_2 _ _)
  show wpAny _ _ (setAdd a v >>= fun _ => ret .none) _ _ s
  exact wpAny_bind (wpAny_mono h (fun _ _ q => wpAny_pure ⟨_, rfl, q⟩) fun _ _ x => x)
/-- False is looked for among the set's own elements, by its hash 0 -/
theorem setAdd_scan {es : Array (Int × Value)} {ep : Nat} {t : SetTable} {Q : Bool → Shared → Prop} (hb : byScan (.bool false) es = true)
    (hst : ∀ (A : Around) (E : Value → Shared → Prop) (tk : Nat) (Q' : _ → Shared → Prop), Q' (es, ep, t) { s with toks := tk } → wpAny (model prog w) A (setState a) Q' E { s with toks := tk })
    (h : ∀ tk, wpAny (model prog w) A (setAddByScan a (.bool false) 0 es t) (fun r t' => ∃ b, r = some b ∧ Q b t') E { s with toks := tk }) : wpAny (model prog w) A (setAdd a (.bool false)) Q E s := by
  unfold setAdd
  refine wpAny_holding (wpAny_bind (hash_F fun tk => ?_))
  show wpAny _ _ (holding [.bool false] (setAddHashedIn a (.bool false) 0 (99999 + 1))) Q E _
  refine wpAny_holding ?_
  unfold setAddHashedIn
  refine wpAny_bind (hst _ _ tk _ ?_)
  simp only [hb, if_true]
  refine wpAny_bind (wpAny_mono (h tk) ?_ fun _ _ x => x)
  rintro _ t' ⟨b, rfl, q⟩
  exact wpAny_pure q
theorem add_E {Q : Value → Shared → Prop} (ho : s.heap.get? a = some (setE led)) (h : ∀ h' tk, Heap.SameBut a s.heap h' → h'.get? a = some (setF led) → Q .none { s with heap := h', toks := tk }) :
    wpAny (model prog w) A (call (.builtin "set.add") [.ref a, .bool false]) Q E s := by
  refine set_add ⟨_, ho, rfl⟩ (setAdd_scan (by decide +kernel) (fun A E tk Q' q => wpAny_setState_of (s := { s with toks := tk }) ho rfl rfl q) fun tk => ?_)
  unfold setAddByScan
  refine wpAny_bind (wpAny_rule (wpAny_bind (wpAny_of_eq (a := ScanMet.absent) rfl ?_)))
  dsimp only
  rw [lay_F]
  dsimp only
  refine wpAny_bind (wpAny_of_eq (a := ()) rfl ?_)
  rw [if_pos rfl]
  refine wpAny_bind (wpAny_of_eq (a := true) rfl ?_)
  simp only [if_true, full_F, Bool.and_false, Bool.false_eq_true, if_false]
  refine wpAny_bind (wpAny_storeSet_of (s := { s with toks := tk }) ho rfl ?_ (by rw [sizeLine_eq]; decide))
  exact wpAny_pure ⟨_, rfl, h _ tk (Heap.SameBut.update ..) (Heap.get?_update_self _ ho rfl)⟩
theorem add_F {Q : Value → Shared → Prop} (ho : s.heap.get? a = some (setF led)) (h : ∀ tk, Q .none { s with toks := tk }) :
    wpAny (model prog w) A (call (.builtin "set.add") [.ref a, .bool false]) Q E s := by
  have state : ∀ (A : Around) (E : Value → Shared → Prop) (tk : Nat) (Q' : _ → Shared → Prop), Q' (#[(0, .bool false)], 1, tabF led) { s with toks := tk } → wpAny (model prog w) A (setState a) Q' E { s with toks := tk } :=
    fun A E tk Q' q => wpAny_setState_of (s := { s with toks := tk }) ho rfl (by cases led <;> rfl) q
  refine set_add ⟨_, ho, rfl⟩ (setAdd_scan (by decide +kernel) state fun tk => ?_)
  unfold setAddByScan
  refine wpAny_bind (wpAny_rule (wpAny_bind ?_))
  show wpAny _ _ (setScanFrom a (.bool false) 0 true [(0, .bool false)] 0) _ _ _
  unfold setScanFrom
  rw [if_pos (by decide)]
  refine wpAny_bind (wpAny_bind (state _ _ tk _ (wpAny_pure (wpAny_bind (eqBool_F ?_)))))
  rw [if_pos (by decide)]
  exact wpAny_pure (wpAny_pure ⟨_, rfl, h tk⟩)
end
section facts
theorem slot_setit_next : Slot "set_iterator" "__next__" "set_iterator.__next__" := slot_by "set_iterator" "__next__" (by kernel_rfl) (by kernel_rfl) (by decide +kernel) (by kernel_rfl)
theorem entry_setit_next : entryFor table "set_iterator.__next__" = some Builtin.«set_iterator.__next__» := entryFor_of_tree (by kernel_rfl)
theorem owner_setit : Manifest.owners.lookup (String.ofList "set_iterator".toList.reverse.reverse) = some Manifest.sig_set_iterator := by kernel_rfl
theorem args_setit_next (v : Value) : argsOk "set_iterator.__next__" ⟨[v], []⟩ := args_by "__next__" "set_iterator" (by kernel_rfl) owner_setit (by kernel_rfl)
theorem entry_set_iter : entryFor table "set.__iter__" = some Builtin.«frozenset.__iter__» :=
  entryFor_alias (id' := "frozenset.__iter__") (by kernel_rfl) rfl (by decide +kernel) (by kernel_rfl)
end facts
/-- an iterator over {False}, i taken -/
abbrev setIt (a : Addr) (slot i : Int) (src : Value) : Obj := { cls := .type "set_iterator", dict := none, data := .fields #[rawInt slot, rawInt i, src, rawInt 1, rawInt 1], slots := #[] }
section
variable {prog : Program} {w : World} {A : Around} {E : Value → Shared → Prop} {s : Shared} {a : Addr} {led : Bool}
theorem iter_F {Q : Value → Shared → Prop} (ho : s.heap.get? a = some (setF led)) (h : Q (.ref s.heap.objs.size) { s with heap := s.heap.push (setIt a 0 0 (.ref a)) }) : wpAny (model prog w) A (pyIter (.ref a)) Q E s := by
  have hT : s.TypeIs (.ref a) "set" := ⟨_, ho, rfl⟩
  have state : ∀ (A : Around) (Q' : _ → Shared → Prop) (E : Value → Shared → Prop), Q' (#[(0, .bool false)], 1, tabF led) s → wpAny (model prog w) A (setState a) Q' E s :=
    fun A Q' E q => wpAny_setState_of ho rfl (by cases led <;> rfl) q
  refine wpAny_pyIter_slot hT F.slot_set_iter (wpAny_call_entry F.slot_set_iter hT entry_set_iter ?_ (F.args_set_iter_1 _))
  refine wpAny_bind (m := Builtin.Frozenset.slot0 "__iter__" _) (wpAny_of_eq (a := a) rfl ?_)
  refine wpAny_bind (wpAny_bind (wpAny_setEntries_of ho rfl (by cases led <;> rfl) (wpAny_pure ?_)))
  have plain : wpAny (model prog w) A.in1 (setDrawn a) (fun b t => b = false ∧ t = s) (fun _ _ => False) s := by
    refine wpAny_bind (state _ _ _ (wpAny_bind (wpAny_bind (wpAny_askSetting (wpAny_pure (wpAny_pure ⟨?_, rfl⟩))))))
    exact (Bool.and_comm _ _).trans rfl
  refine wpAny_bind (m := setDrawn a) (wpAny_mono plain ?_ fun _ _ no => no.elim)
  rintro _ _ ⟨rfl, rfl⟩
  refine wpAny_bind (wpAny_pure (wpAny_bind (wpAny_bind (state _ _ _ (wpAny_pure ?_)))))
  exact wpAny_bind (wpAny_newObj_type (wpAny_pure ⟨_, rfl, "set_iterator", _, ⟨_, Heap.get?_push_size _ rfl, rfl⟩, slot_setit_next.lookup, h⟩))
theorem pick_one (f : Nat → Nat) (x : Int × Value) : pickOrder f #[x] = #[x] := by
  show pickOrder.go f 1 0 [x] #[] = #[x]
  unfold pickOrder.go
  have : f 0 % ([x] : List (Int × Value)).length = 0 := Nat.mod_one _
  rw [this]
  rfl
theorem walk_F {Q : Array (Int × Value) → Shared → Prop} (hbt : w.params.followText "set-order" = true) (ho : s.heap.get? a = some (setF led)) (h : Q #[(0, .bool false)] s) : wpAny (model prog w) A (setWalk a) Q E s := by
  unfold setWalk
  refine wpAny_bind (wpAny_setState_of ho rfl (by cases led <;> rfl) ?_)
  dsimp only
  unfold setsByText
  refine wpAny_bind (wpAny_bind (wpAny_askSetting (wpAny_pure ?_)))
  rw [if_pos (show ({ program := (model prog w).prog, params := (model prog w).w.params } : Setting).params.followText "set-order" = true from hbt)]
  refine wpAny_bind (wpAny_askSetting (wpAny_pure ?_))
  rw [pick_one]
  exact h
/-- a step of the set's iterator, k its place and i what it has given: the built-in's own tree -/
theorem step_F {it : Addr} {k i : Int} {Q : Option Value → Shared → Prop} (ho : s.heap.get? a = some (setF led)) (hi : s.heap.get? it = some (setIt a k i (.ref a)))
    (h : wpAny (model prog w) A.in1 (do
        match ← setNext a k.toNat i.toNat 1 with
        | some (x, next) => setField (.ref it) 0 (rawInt next); setField (.ref it) 1 (rawInt (i + 1)); ret x
        | none => setField (.ref it) 2 .none; raiseNew (← newExc (.type "StopIteration") []))
      (fun fin t => ∃ v, fin = .done (.ret v) ∧ Q (some v) t) (fun e t => t.TypeIs e "StopIteration" ∧ Q none t) s) : wpAny (model prog w) A (pyNext (.ref it)) Q E s := by
  have T : s.TypeIs (.ref it) "set_iterator" := ⟨_, hi, rfl⟩
  unfold pyNext
  refine wpAny_bind (wpAny_attempt (wpAny_callSpecial?_slot (name := Str.ofString "__next__") T slot_setit_next (wpAny_call_entry slot_setit_next T entry_setit_next (wpAny_mono (Q := fun fin t => ∃ v, fin = .done (.ret v) ∧ Q (some v) t)
    (E := fun e t => t.TypeIs e "StopIteration" ∧ Q none t) ?_ ?_ ?_) (args_setit_next _))))
  · unfold Builtin.«set_iterator.__next__»
    have fields : ∀ Q' : Array Value → Shared → Prop, Q' #[rawInt k, rawInt i, .ref a, rawInt 1, rawInt 1] s → wpAny (model prog w) A.in1 (fieldsOf (.ref it)) Q' (fun e t => t.TypeIs e "StopIteration" ∧ Q none t) s := fun Q' q => by
      unfold fieldsOf
      exact wpAny_bind (wpAny_load hi (wpAny_pure q))
    refine wpAny_bind (wpAny_of_eq (a := (.ref it, [])) rfl (wpAny_bind (fields _ ?_)))
    refine wpAny_bind (wpAny_setEntries_of ho rfl (by cases led <;> rfl) ?_)
    exact h
  · rintro _ t ⟨v, rfl, q⟩
    exact ⟨v, rfl, wpAny_pure q⟩
  · rintro e t ⟨T, q⟩
    exact wpAny_bind (wpAny_isInstance T isSubtype_stop (wpAny_pure q))
theorem next_F {it : Addr} {Q : Option Value → Shared → Prop} (hled : led = !(w.params.followText "set-order")) (ho : s.heap.get? a = some (setF led)) (hi : s.heap.get? it = some (setIt a 0 0 (.ref a)))
    (h : ∀ h' k, (k = 0 ∨ (k = 1 ∧ led = true)) → (k = 0 → led = false) → Heap.SameBut it s.heap h' → h'.get? it = some (setIt a k 1 (.ref a)) → Q (some (.bool false)) { s with heap := h' }) : wpAny (model prog w) A (pyNext (.ref it)) Q E s := by
  -- which place the iterator notes: 1 where the table is led, else 0
  have given : wpAny (model prog w) A.in1 (setNext a 0 0 1) (fun r t => t = s ∧ r = some (.bool false, if led then 1 else 0)) (fun _ _ => False) s := by
    refine wpAny_bind (wpAny_setState_of ho rfl (by cases led <;> rfl) ?_)
    refine wpAny_bind (m := setsByText) (wpAny_bind (wpAny_askSetting (wpAny_pure ?_)))
    show wpAny _ _ (if w.params.followText "set-order" = true then _ else _) _ _ _
    cases hbt : w.params.followText "set-order" with
    | true =>
      obtain rfl : led = false := by rw [hled, hbt]; rfl
      rw [if_pos rfl, if_neg (by decide)]
      exact wpAny_bind (walk_F hbt ho (wpAny_pure ⟨rfl, rfl⟩))
    | false =>
      obtain rfl : led = true := by rw [hled, hbt]; rfl
      rw [if_neg (by decide), if_neg (by decide)]
      exact wpAny_bind (wpAny_of_eq (a := ()) rfl (wpAny_pure ⟨rfl, rfl⟩))
  refine step_F ho hi (wpAny_bind (wpAny_mono given ?_ fun _ _ no => no.elim))
  rintro _ _ ⟨rfl, rfl⟩
  refine wpAny_bind (wpAny_setField_rec hi (by simp) fun h₁ hi₁ hs₁ => wpAny_bind (wpAny_setField_rec hi₁ (by simp) fun h₂ hi₂ hs₂ => wpAny_pure ⟨_, rfl, ?_⟩))
  refine h h₂ (if led then 1 else 0) ?_ ?_ (hs₁.trans hs₂) ?_
  · cases led <;> simp
  · cases led <;> simp
  · cases led <;> exact hi₂
/-- a StopIteration, made: the old objects stay -/
theorem new_stop {M : Model} {Q : Value → Shared → Prop} (h : ∀ h' e, (∀ b o, s.heap.get? b = some o → h'.get? b = some o) → (⟨h', s.gens, s.drawn, s.toks, s.os⟩ : Shared).TypeIs (.ref e) "StopIteration" → Q (.ref e) { s with heap := h' }) :
    wpAny M A (newExc (.type "StopIteration") []) Q E s := by
  have member : firstArgMember (.type "StopIteration") ([] : List Value) = pure .none := by simp [firstArgMember]
  unfold newExc
  refine wpAny_bind (wpAny_newObj_type (wpAny_bind (wpAny_of_eq member (wpAny_newObj_type (h _ _ (fun b o e => Heap.get?_push_of_some _ (Heap.get?_push_of_some _ e)) ⟨_, Heap.get?_push_size _ rfl, rfl⟩)))))
theorem done_F {it : Addr} {k : Int} {Q : Option Value → Shared → Prop} (hh : A.handled = none) (hk : k = 0 ∨ (k = 1 ∧ led = true)) (hk0 : k = 0 → led = false) (hled : led = !(w.params.followText "set-order")) (ho : s.heap.get? a = some (setF led)) (hi : s.heap.get? it = some (setIt a k 1 (.ref a)))
    (h : ∀ h', Heap.ExtBut it s.heap h' → Q none { s with heap := h' }) : wpAny (model prog w) A (pyNext (.ref it)) Q E s := by
  -- nothing is left
  have given : wpAny (model prog w) A.in1 (setNext a k.toNat 1 1) (fun r t => t = s ∧ r = none) (fun _ _ => False) s := by
    refine wpAny_bind (wpAny_setState_of ho rfl (by cases led <;> rfl) ?_)
    refine wpAny_bind (m := setsByText) (wpAny_bind (wpAny_askSetting (wpAny_pure ?_)))
    show wpAny _ _ (if w.params.followText "set-order" = true then _ else _) _ _ _
    cases hbt : w.params.followText "set-order" with
    | true =>
      obtain rfl : led = false := by rw [hled, hbt]; rfl
      rw [if_pos rfl, if_neg (by decide)]
      exact wpAny_bind (walk_F hbt ho (wpAny_pure ⟨rfl, rfl⟩))
    | false =>
      obtain rfl : led = true := by rw [hled, hbt]; rfl
      obtain rfl : k = 1 := by
        rcases hk with rfl | hk
        · exact nomatch hk0 rfl
        · exact hk.1
      rw [if_neg (by decide), if_neg (by decide)]
      exact wpAny_bind (wpAny_of_eq (a := ()) rfl (wpAny_pure ⟨rfl, rfl⟩))
  refine step_F ho hi (wpAny_bind (wpAny_mono given ?_ fun _ _ no => no.elim))
  rintro _ _ ⟨rfl, rfl⟩
  refine wpAny_bind (wpAny_setField_rec hi (by simp) fun h₁ hi₁ hs₁ => wpAny_bind (new_stop fun h₂ e old T => wpAny_raiseNew_none hh ⟨T, h h₂ fun b o hb at_ => old b o (hs₁.extBut b o hb at_)⟩))
/-- what a set of one False unpacks to -/
theorem unpack_F {Q : List Value → Shared → Prop} (hh : A.handled = none) (hled : led = !(w.params.followText "set-order")) (ho : s.heap.get? a = some (setF led))
    (h : ∀ h', Heap.ExtBut s.heap.objs.size s.heap h' → Q [.bool false] { s with heap := h' }) : wpAny (model prog w) A (unpackItems (.ref a) 1 none) Q E s := by
  have hT : s.TypeIs (.ref a) "set" := ⟨_, ho, rfl⟩
  have hne : @Ne Nat s.heap.objs.size a := Nat.ne_of_gt (Heap.lt_size ho)
  unfold unpackItems
  refine wpAny_bind ?_
  unfold notIterableAtAll
  refine wpAny_bind (wpAny_specialOf hT F.slot_set_iter.lookup ?_)
  refine wpAny_pure ?_
  simp only [Bool.false_eq_true, if_false]
  refine wpAny_bind (wpAny_holding (iter_F ho ?_))
  refine wpAny_bind (wpAny_holding ?_)
  unfold draw
  refine wpAny_bind (next_F hled (Heap.get?_push_of_some _ ho) (Heap.get?_push_size _ rfl) fun h₁ k hk hk0 hs₁ hi₁ => ?_)
  dsimp only
  unfold draw
  refine wpAny_bind (wpAny_holding (wpAny_pure (wpAny_pure ?_)))
  rw [if_neg (by decide)]
  have ho₁ : h₁.get? a = some (setF led) := (hs₁.2 _ (Ne.symm hne)).trans (Heap.get?_push_of_some _ ho)
  refine wpAny_bind (wpAny_holding (done_F hh hk hk0 hled ho₁ hi₁ fun h₂ hs₂ => ?_))
  simp only [Option.isSome_none, Bool.false_eq_true, if_false]
  exact wpAny_pure (h h₂ fun b o hb e => hs₂ b o hb (hs₁.extBut b o hb (Heap.get?_push_of_some _ e)))
/-- the empty set, made -/
theorem newSet_E {Q : Value → Shared → Prop} (h : Q (.ref s.heap.objs.size) { s with heap := s.heap.push (setE (!(w.params.followText "set-order"))) }) : wpAny (model prog w) A (newSet (.type "set")) Q E s := by
  unfold newSet setsByText
  refine wpAny_bind (wpAny_bind (wpAny_askSetting (wpAny_pure ?_)))
  exact wpAny_newObj_type h
end
end Mine
end
section
open PySem PySem.W PyProof.Rows PySem.Calls
set_option maxRecDepth 100000
namespace Mine
/-- the set, none or some turns on -/
noncomputable def sOb (led : Bool) (i : Nat) : Obj := if i = 0 then setE led else setF led
theorem sOb_pos {led : Bool} {i : Nat} (h : i ≠ 0) : sOb led i = setF led := if_neg h
section
variable {prog : Program} {w : World} {A : Around} {E : Value → Shared → Prop} {s : Shared} {led : Bool} {a : Addr}
theorem add_O {i : Nat} {Q : Value → Shared → Prop} (ho : s.heap.get? a = some (sOb led i)) (h : ∀ h' tk, Heap.SameBut a s.heap h' → h'.get? a = some (sOb led (i + 1)) → Q .none { s with heap := h', toks := tk }) :
    wpAny (model prog w) A (call (.builtin "set.add") [.ref a, .bool false]) Q E s := by
  rw [sOb_pos (Nat.succ_ne_zero i)] at h
  by_cases hi : i = 0
  · subst hi; exact add_E ho h
  · rw [sOb_pos hi] at ho
    exact add_F ho fun tk => h s.heap tk (Heap.SameBut.refl a s.heap) ho
end
section
variable {P : Ctx → Prop} {prog : Program} {w : World} {A : Around} {E : Value → Shared → Prop} {s : Shared} {env : Env} {h₀ : Heap} {L : Addr} {m : Str → Option Value} {news : List (Addr × Obj)}
theorem unpack_L {a : Addr} {led : Bool} {Q : List Value → Shared → Prop} (hh : A.handled = none) (hled : led = !(w.params.followText "set-order")) (F : Fr h₀ L s.heap m) (N : News h₀ L s.heap news) (hm : (a, setF led) ∈ news)
    (h : ∀ h', Fr h₀ L h' m → News h₀ L h' news → Q [.bool false] { s with heap := h' }) : wpAny (model prog w) A (unpackItems (.ref a) 1 none) Q E s := by
  refine unpack_F hh hled (N _ hm).1 fun h' he => ?_
  have up : ∀ b o, s.heap.get? b = some o → h'.get? b = some o := fun b o e => he b o (Nat.ne_of_lt (Heap.lt_size e)) e
  exact h h' (F.keeps up) (N.grown up)
theorem assign_set1 {a : Addr} {led : Bool} {x : Str} {px : Pos} {k} {pos : Pos} {Q : Unit → Shared → Prop} (hh : A.handled = none) (hled : led = !(w.params.followText "set-order")) (F : Fr h₀ L s.heap m) (N : News h₀ L s.heap news) (hm : (a, setF led) ∈ news)
    (h : ∀ h', Fr h₀ L h' m → News h₀ L h' news → wpAny (model prog w) A (storeName env x (.bool false)) Q E { s with heap := h' }) : wpAny (model prog w) A (assign (.Tuple [.Name x px] k pos) env (.ref a)) Q E s := by
  show wpAny _ A (do standAt pos; unpack (.ref a) [(false, assign (.Name x px) env)]) Q E s
  refine wpAny_bind (wpAny_standAt ?_)
  unfold unpack
  refine wpAny_bind (wpAny_holding (unpack_L hh hled F N hm fun h' F' N' => ?_))
  show wpAny _ _ (assignInOrder [assign (.Name x px) env] [.bool false]) _ _ _
  unfold assignInOrder
  refine wpAny_bind (wpAny_holding (assign_Name (wpAny_mono (h h' F' N') (fun _ _ q => wpAny_pure q) fun _ _ q => q)))
/-- what an element of the set leaves -/
noncomputable def SEnd (h₀ : Heap) (L : Addr) (m : Str → Option Value) (s : Shared) (nw : List (Addr × Obj)) (y : Value) (s' : Shared) : Prop :=
  y = .bool false ∧ (∃ h' tk', s' = { s with heap := h', toks := tk' }) ∧ Fr h₀ L s'.heap m ∧ News h₀ L s'.heap nw
theorem SEnd.intro {nw : List (Addr × Obj)} {h' : Heap} {tk' : Nat} {y : Value} (e : y = .bool false) (F : Fr h₀ L h' m) (N : News h₀ L h' nw) : SEnd h₀ L m s nw y { s with heap := h', toks := tk' } := ⟨e, ⟨h', tk', rfl⟩, F, N⟩
/-- what is left of a set comprehension when its source has been evaluated -/
noncomputable def SGoal (P : Ctx → Prop) (prog : Program) (w : World) (A : Around) (E : Value → Shared → Prop) (Q : Value → Shared → Prop) (e : Expr) (scope : Scope) (cl : List (Str × Addr)) (env : Env) (xv : Value) : Shared → Prop :=
  wpAny (model prog w) A (pyIter xv) (Block P (model prog w) A E none Q e scope cl env (newSet (.type "set"))) E
section
variable {elt iter : Expr} {x : Str} {px : Pos} {scope : Scope} {cl : List (Str × Addr)} {pos : Pos} {Q : Value → Shared → Prop}
theorem eval_SC (K : Kept P) (hclos : closureFor scope env = pure cl) (hkind : scope.kind = .function) (hnames : ∀ x ∈ scope.names, x.2 = .local → scope.names.lookup x.1 = some .local)
    (h : wpP P (model prog w) A (eval iter env) (SGoal P prog w A E Q (.SetComp elt [⟨.Name x px, iter, [], 0⟩] scope pos) scope cl env) E s)
    (hs : ∀ x, foldedSetIterable iter env x = pure x := by intro _; rfl) :
    wpP P (model prog w) A (eval (.SetComp elt [⟨.Name x px, iter, [], 0⟩] scope pos) env) Q E s := by
  rw [arm_eval_SetComp]
  exact compP K rfl hs hclos hkind hnames h
/-- what is asked of an item that a set comprehension takes -/
noncomputable def TakenS (P : Ctx → Prop) (prog : Program) (w : World) (A : Around) (target elt : Expr) (cenv : Env) (acc v : Value) (q : Shared → Prop) : Shared → Prop :=
  wpAny (model prog w) A (assign target cenv v) (fun _ => wpP P (model prog w) A (eval elt cenv) (fun y => wpAny (model prog w) A (call (.builtin "set.add") [acc, y]) (fun _ => q) fun _ _ => False) fun _ _ => False) fun _ _ => False
/-- the turn of a set comprehension without a test, its target a name -/
theorem set_opens {cenv : Env} {I : Addr} {acc : Value} (Q : Fin → Shared → Prop) (t : Shared)
    (h : wpAny (model prog w) A (pyNext (.ref I)) (fun r t' => r.elim (Q (.done .next) t') fun v => TakenS P prog w A (.Name x px) elt cenv acc v (Q (.again (.compLoop (.SetComp elt [⟨.Name x px, iter, [], 0⟩] scope pos) 0 (.ref I) acc cenv))) t') (fun _ _ => False) t) :
    wpP P (model prog w) A (compTurn (.SetComp elt [⟨.Name x px, iter, [], 0⟩] scope pos) 0 (.ref I) acc cenv) Q (fun _ _ => False) t := by
  refine wpP_bind (m := standAt _) (wpP_standAt (wpP_bindA (m := pyNext (.ref I)) (wpAny_mono h ?_ fun _ _ e => e)))
  rintro (_ | v) t' q
  · exact wpP_pure q
  refine wpP_bindA (m := letOwnedTupleGo (.Name x px) (.ref I) v) (wpAny_pure (wpP_bindA (wpAny_mono q ?_ fun _ _ e => e)))
  intro _ t₁ q₁
  refine wpP_bind (m := pure true) (wpP_pure (wpP_bind (wpP_bind (wpP_mono q₁ ?_ fun _ _ e => e))))
  intro y t₂ q₂
  exact wpP_bind (wpP_standAt (wpP_bindA (wpAny_mono q₂ (fun _ _ q => wpP_pure (wpP_pure q)) fun _ _ e => e)))
theorem comp_setF (K : Kept P) {a : Addr} {vs : List Value} {k : Nat} (hh : A.handled = none) (hcell : ∀ y ∈ scope.names, y.2 ≠ .cell) (hkind : scope.kind = .function) (hx : scope.names.lookup x = some .local)
    (F : Fr h₀ L s.heap m) (N : News h₀ L s.heap news) (hm : (a, tupObj vs k) ∈ news) (hsz : vs.length ≠ 0)
    (turn : ∀ v ∈ vs, ∀ h₁ tk₁ I oI C oC D oD m₂, Off3 I C D news → (@Ne Nat I C ∧ @Ne Nat I D ∧ @Ne Nat C D) → LCg.NsObj oC m₂ → m₂ x = some v → Fr h₀ L h₁ m → News h₀ L h₁ ((I, oI) :: (C, oC) :: (D, oD) :: news) →
      wpP P (model prog w) A (eval elt (compEnvC scope cl C env)) (SEnd h₀ L m s ((I, oI) :: (C, oC) :: (D, oD) :: news)) (fun _ _ => False) { s with heap := h₁, toks := tk₁ })
    (fin : ∀ D h tk, Fr h₀ L h m → News h₀ L h ((D, setF (!(w.params.followText "set-order"))) :: news) → (∀ p ∈ news, p.1 ≠ D) → Q (.ref D) { s with heap := h, toks := tk }) :
    SGoal P prog w A E Q (.SetComp elt [⟨.Name x px, iter, [], 0⟩] scope pos) scope cl env (.ref a) s := by
  generalize hled : (!(w.params.followText "set-order")) = led at fin
  have tup : s.heap.IsTuple a vs.toArray := ⟨_, (N _ hm).1, rfl, _, rfl⟩
  have W := Walks.tuple (prog := prog) (w := w) (A := A) hh s.heap.objs.size a (Nat.ne_of_lt (Heap.lt_size (N _ hm).1)) vs.toArray
  have grown : ∀ b ob, s.heap.get? b = some ob → (s.heap.push { cls := .type "tuple_iterator", data := .fields #[.ref a, .int 0 0] }).get? b = some ob := fun b ob e => Heap.get?_push_of_some _ e
  have new := fresh_I F
  refine wpAny_pyIter_tuple tup (open_block (s := { s with heap := s.heap.push { cls := .type "tuple_iterator", data := .fields #[.ref a, .int 0 0] } }) K (o := setE led) (gs := []) (fun Q' q => newSet_E (by rw [hled]; exact q)) rfl rfl rfl (fun _ _ => ⟨rfl, rfl, rfl⟩) (fun _ _ => rfl) W (fun i h st => st.1.imp fun _ e => e.1) hcell hkind
    ⟨⟨_, Heap.get?_push_size _ rfl, rfl, rfl⟩, tup.at fun o e => grown _ o e⟩ (F.keeps grown) (N.grown grown) (fun p hp => Nat.ne_of_lt (Heap.lt_size (N p hp).1)) ?_)
  intro C D h₁ tk₁ mC ap st₁ F₁ ns₁ N₁ off₁
  -- behind i turns the set is sOb led i, and the ledger what it was
  refine comp_ledger (s := { s with heap := h₁, toks := tk₁ }) K (keep := [(a, tupObj vs k)]) ⟨rfl, rfl, rfl⟩ rfl set_opens W (fun i h st => st.1.imp fun _ e => e.1) ap new.1 new.2 (fun i _ oD nw => oD = sOb led i ∧ nw = news)
    (fun i _ oD nw ⟨_, e⟩ p hp => by rw [List.mem_singleton.mp hp, e]; exact hm) ?_ ?_ st₁ F₁ ns₁ N₁ off₁ ⟨rfl, rfl⟩
  · rintro i v mC _ news h₂ tk₂ oI lt hv st₂ ⟨rfl, rfl⟩ off₂ F₂ ns₂ N₂ q on
    refine wpAny_assign_Name (wpAny_storeName_local (lookup_relabel_local hx) ns₂ (fun h₃ ns₃ only => ?_) (by simp [compEnvC, relabel, hkind]))
    obtain ⟨oC, at_, hoC⟩ := LCg.ns_obj ns₃
    have still : ∀ p, p ∈ (s.heap.objs.size, oI) :: (D, sOb led i) :: news → p.1 ≠ C → h₃.get? p.1 = some p.2 ∧ p.1 ≠ L ∧ h₀.get? p.1 = none := fun p hp ne => ⟨only.extBut _ _ ne (N₂ p hp).1, (N₂ p hp).2⟩
    have N₃ : News h₀ L h₃ ((s.heap.objs.size, oI) :: (C, oC) :: (D, sOb led i) :: news) := fun p hp => by
      rcases List.mem_cons.mp hp with rfl | hp
      · exact still _ (.head _) ap.ic
      · rcases List.mem_cons.mp hp with rfl | hp
        · exact ⟨at_, ap.cl, ap.c0⟩
        · refine still p (.tail _ hp) ?_
          rcases List.mem_cons.mp hp with rfl | hp
          · exact Ne.symm ap.cd
          · exact (off₂ p hp).2.1
    have item : v ∈ vs := List.mem_of_getElem? (by simpa using hv)
    refine wpP_mono (turn v item h₃ _ _ oI C oC D _ _ off₂ ⟨ap.ic, ap.id, ap.cd⟩ hoC (by simp) (F₂.change only ap.cl ap.c0) N₃) ?_ fun _ _ e => e
    rintro _ t ⟨rfl, ⟨h₄, tk₄, rfl⟩, F₄, N₄⟩
    have row : ∀ p, p ∈ (s.heap.objs.size, oI) :: (C, oC) :: news → p.1 ≠ D → p ∈ (s.heap.objs.size, oI) :: (C, oC) :: (D, sOb led i) :: news := fun p hp _ => by
      rcases List.mem_cons.mp hp with rfl | hp
      · exact .head _
      · rcases List.mem_cons.mp hp with rfl | hp
        · exact .tail _ (.head _)
        · exact .tail _ (.tail _ (.tail _ hp))
    refine add_O (N₄ _ (.tail _ (.tail _ (.head _)))).1 fun h₅ tk₅ only₅ at₅ => on _ ?_
    have kept : ∀ p, p ∈ (s.heap.objs.size, oI) :: (C, oC) :: news → p.1 ≠ D → h₅.get? p.1 = some p.2 ∧ p.1 ≠ L ∧ h₀.get? p.1 = none := fun p hp ne => ⟨(only₅.2 _ ne).trans (N₄ p (row p hp ne)).1, (N₄ p (row p hp ne)).2⟩
    refine ⟨_, sOb led (i + 1), news, ⟨_, _, rfl⟩, ⟨F₄.change only₅ ap.dl ap.d0, hoC.ns (kept _ (.tail _ (.head _)) ap.cd).1, fun p hp => ?_⟩, off₂, rfl, rfl⟩
    rcases List.mem_cons.mp hp with rfl | hp
    · exact kept _ (.head _) ap.id
    · rcases List.mem_cons.mp hp with rfl | hp
      · exact ⟨at₅, ap.dl, ap.d0⟩
      · exact kept p (.tail _ (.tail _ hp)) (off₂ p hp).2.2
  · rintro h tk mC _ news F' ns' N' off' ⟨rfl, rfl⟩
    rw [sOb_pos (by simpa using hsz)] at N'
    refine ⟨⟨_, rfl⟩, freed_of (t := { s with heap := h, toks := tk }) ap.cl ap.c0 F' N' (fun p hp => ?_) ns' fun h' F'' N'' => fin D h' tk F'' N'' fun p hp => (off' p hp).2.2⟩
    rcases List.mem_cons.mp hp with rfl | hp
    · exact Ne.symm ap.cd
    · exact (off' p hp).2.1
end
end
end Mine
end
section
open PySem PySem.W PyProof.Rows PySem.Calls
set_option maxRecDepth 100000
namespace Mine
section
variable {P : Ctx → Prop} {prog : Program} {w : World} {A : Around} {E : Value → Shared → Prop} {s : Shared} {env : Env}
theorem for_walkU (K : Kept P) {elts : List Expr} {kt} {pt : Pos} {body : List Stmt} {I : Addr} {fp wr : List Addr} {n : Nat} {Pt : Nat → Array Value → Prop} {St : Nat → Heap → Prop} {Mid : Nat → Addr → Heap → Prop} {R : Result → Shared → Prop}
    (W : WalksU prog w A I fp wr n Pt St Mid) (J : Nat → Shared → Prop) (hJ : ∀ i s, J i s → St i s.heap)
    (turn : ∀ i s T vals h' tk, i < n → J i s → Pt i vals → h'.IsTuple T vals → St (i + 1) h' → (∀ b o, b ∉ wr → s.heap.get? b = some o → h'.get? b = some o) →
      wpAny (model prog w) A (assign (.Tuple elts kt pt) env (.ref T)) (fun _ s₂ => wpP P (model prog w) A (execs body env) (fun f s₃ => match f with
        | .next | .cont => J (i + 1) s₃
        | .brk => R (.ok .next) s₃
        | .ret v => R (.ok (.ret v)) s₃) (fun _ _ => False) s₂) (fun _ _ => False) { s with heap := h', toks := tk })
    (done : ∀ s h' tk, J n s → (∀ b o, b ∉ wr → s.heap.get? b = some o → h'.get? b = some o) → R (.ok .next) { s with heap := h', toks := tk })
    (h0 : J 0 s) :
    codeP P (model prog w) A (.forLoop (.Tuple elts kt pt) (.ref I) body [] env) R s := by
  refine for_turns K J (fun i s lt hi => ?_) (fun s hi => W.done s _ _ (hJ _ _ hi) fun h' tk keep => ⟨rfl, done s h' tk hi keep⟩) h0
  refine W.item i s _ _ lt (hJ _ _ hi) fun T vals h₁ tk hv tup mid keep => ⟨_, rfl, W.go elts kt pt i T _ _ _ mid fun h₂ st keep' => ?_⟩
  have tup₂ : h₂.IsTuple T vals := tup.imp fun o at_ => ⟨keep' T o (W.apart _ _ _ mid) at_.1, at_.2⟩
  exact turn i s T vals h₂ tk lt hi hv tup₂ st fun b o hb at_ => keep' b o hb (keep b o hb at_)
end
/-- an enumerate object over a list has been made, with the list's iterator -/
structure EnumOf (h₀ : Heap) (L : Addr) (m : Str → Option Value) (news : List (Addr × Obj)) (a e it : Addr) (h : Heap) : Prop where
  enum : IsEnum h e it 0 .none
  iter : h.IsListIter it a 0
  two : @Ne Nat e it
  eL : e ≠ L ∧ h₀.get? e = none
  iL : it ≠ L ∧ h₀.get? it = none
  off : ∀ p ∈ news, p.1 ≠ e ∧ p.1 ≠ it
  fr : Fr h₀ L h m
  news : News h₀ L h news
noncomputable def EnumAt (h₀ : Heap) (L : Addr) (m : Str → Option Value) (news : List (Addr × Obj)) (s : Shared) (a : Addr) (x : Value) (s₁ : Shared) : Prop :=
  (∃ h tk, s₁ = { s with heap := h, toks := tk }) ∧ ∃ e it, x = .ref e ∧ EnumOf h₀ L m news a e it s₁.heap
/-- what a turn over an enumerate leaves -/
noncomputable abbrev TurnEnd2 (h₀ : Heap) (L : Addr) (s : Shared) (e it : Addr) (oe oit : Obj) (J : (Str → Option Value) → List (Addr × Obj) → Prop) : Shared → Prop := UnrEndW h₀ L s [(e, oe), (it, oit)] J
theorem TurnEnd2.intro {h₀ : Heap} {L : Addr} {s : Shared} {e it : Addr} {oe oit : Obj} {J : (Str → Option Value) → List (Addr × Obj) → Prop} {h' : Heap} {tk' : Nat} {m' : Str → Option Value} {news' : List (Addr × Obj)}
    (F : Fr h₀ L h' m') (N : News h₀ L h' ((e, oe) :: (it, oit) :: news')) (off : ∀ p ∈ news', p.1 ≠ e ∧ p.1 ≠ it) (hJ : J m' news') : TurnEnd2 h₀ L s e it oe oit J { s with heap := h', toks := tk' } := by
  refine ⟨h', tk', m', news', rfl, F, N, fun p hp q hq => ?_, hJ⟩
  rcases List.mem_cons.mp hq with rfl | hq
  · exact (off p hp).1
  · obtain rfl := List.mem_singleton.mp hq
    exact (off p hp).2
section
variable {P : Ctx → Prop} {prog : Program} {w : World} {A : Around} {E : Value → Shared → Prop} {s : Shared} {env : Env} {h₀ : Heap} {L : Addr} {m : Str → Option Value} {news : List (Addr × Obj)} {iter : Expr} {body : List Stmt} {pos : Pos} {Q : Flow → Shared → Prop}
theorem call_enum_K {a : Addr} {vs : List Value} {n : Nat} {Q : Value → Shared → Prop} (F : Fr h₀ L s.heap m) (N : News h₀ L s.heap news) (hm : (a, listOf vs.toArray n) ∈ news)
    (h : ∀ e h', EnumAt h₀ L m news s a (.ref e) { s with heap := h' } → Q (.ref e) { s with heap := h' }) : wpAny (model prog w) A (call (.type "enumerate") [.ref a]) Q E s := by
  refine call_enumerate_list (isL N hm) fun h' he hi hz hk => h _ h' ⟨⟨h', s.toks, rfl⟩, _, s.heap.objs.size, rfl, ?_⟩
  have new := fresh_I F
  have none₁ : h₀.get? (s.heap.objs.size + 1) = none := Heap.get?_none_of_le (Nat.le_succ_of_le (Nat.le_of_lt (Nat.lt_of_le_of_lt F.above F.ns.lt)))
  have under : ∀ p ∈ news, @LT.lt Nat _ p.1 s.heap.objs.size := fun p hp => Heap.lt_size (N p hp).1
  exact { enum := he, iter := hi, two := Nat.succ_ne_self _, eL := ⟨Nat.ne_of_gt (Nat.lt_succ_of_lt F.ns.lt), none₁⟩, iL := ⟨Ne.symm new.1, new.2⟩, off := fun p hp => ⟨Nat.ne_of_lt (Nat.lt_succ_of_lt (under p hp)), Nat.ne_of_lt (under p hp)⟩, fr := F.keeps hk, news := N.grown hk }
theorem For_enum (K : Kept P) {xi xc : Str} {pi pc : Pos} {kt} {pt : Pos} {a : Addr} {vs : List Value} {k : Nat} (hh : A.handled = none) (hLe : env.locals = L) (hxi : env.kindOf xi = some .local) (hxc : env.kindOf xc = some .local)
    (hpk : (env.scope.kind == .class || (env.scope.kind == .module && env.locals != env.globals)) = false)
    (N₀ : News h₀ L s.heap news) (hm : (a, listOf vs.toArray k) ∈ news)
    (hx : wpAny (model prog w) A (eval iter env) (EnumAt h₀ L m news s a) E s)
    (J : Nat → (Str → Option Value) → List (Addr × Obj) → Prop) (hkeep : ∀ i m nw, J i m nw → (a, listOf vs.toArray k) ∈ nw) (h0 : J 0 m news)
    (turn : ∀ i v t m₁ news₁ h₁ tk₁ e it oe oit, vs[i]? = some v → J i m₁ news₁ → (∀ p ∈ news₁, p.1 ≠ e ∧ p.1 ≠ it) → Fr h₀ L h₁ (fun y => if y = xc then some v else if y = xi then some (.int i t) else m₁ y) → News h₀ L h₁ ((e, oe) :: (it, oit) :: news₁) →
      wpP P (model prog w) A (execs body env) (fun f s₃ => match f with
        | .next | .cont => TurnEnd2 h₀ L s e it oe oit (J (i + 1)) s₃
        | .brk => Q .next s₃
        | .ret v => Q (.ret v) s₃) (fun _ _ => False) { s with heap := h₁, toks := tk₁ })
    (fin : ∀ h' tk m' news', Fr h₀ L h' m' → News h₀ L h' news' → J vs.length m' news' → Q .next { s with heap := h', toks := tk })
    (hs : ∀ x, foldedSetIterable iter env x = pure x := by intro _; rfl) :
    wpP P (model prog w) A (exec (.For (.Tuple [.Name xi pi, .Name xc pc] kt pt) iter body [] pos) env) Q E s := by
  subst hLe
  refine For_walk K (wpAny_mono hx ?_ fun _ _ e => e) hs
  rintro _ _ ⟨⟨h, tk, rfl⟩, e, it, rfl, G⟩
  refine wpAny_pyIter_enum G.enum ?_
  have beside := G.off _ hm
  -- what a step of the enumerate's leaves alone
  have step : ∀ {h₁ h₂ : Heap} {m₁ : Str → Option Value} {nw : List (Addr × Obj)}, (∀ b o, b ∉ [e, it] → h₁.get? b = some o → h₂.get? b = some o) → (∀ p ∈ nw, p.1 ≠ e ∧ p.1 ≠ it) → Fr h₀ env.locals h₁ m₁ → News h₀ env.locals h₁ nw → Fr h₀ env.locals h₂ m₁ ∧ News h₀ env.locals h₂ nw := by
    intro h₁ h₂ m₁ nw k off F N
    have k' : ∀ b o, b ≠ e → b ≠ it → h₁.get? b = some o → h₂.get? b = some o := fun b o n₁ n₂ => k b o (by simp [n₁, n₂])
    have old : ∀ b o, h₀.get? b = some o → b ≠ e ∧ b ≠ it := fun b o at_ => ⟨(fun q => by subst q; rw [G.eL.2] at at_; cases at_), (fun q => by subst q; rw [G.iL.2] at at_; cases at_)⟩
    exact ⟨⟨F.ns.at' fun o at_ => k' _ o (Ne.symm G.eL.1) (Ne.symm G.iL.1) at_, fun b o at_ => k' b o (old b o at_).1 (old b o at_).2 (F.keep b o at_), F.above⟩, fun p hp => ⟨k' _ _ (off p hp).1 (off p hp).2 (N p hp).1, (N p hp).2⟩⟩
  refine for_walkU (s := { s with heap := h, toks := tk }) K (WalksT.enumerate hh e it a G.two beside.1 beside.2 vs.toArray).toU
    (fun i t => ∃ m' nw, (∃ h tk, t = { s with heap := h, toks := tk }) ∧ ((∃ last, IsEnum t.heap e it i last) ∧ t.heap.IsListIter it a i ∧ t.heap.IsList a vs.toArray) ∧ (Fr h₀ env.locals t.heap m' ∧ News h₀ env.locals t.heap nw) ∧ (∀ p ∈ nw, p.1 ≠ e ∧ p.1 ≠ it) ∧ J i m' nw)
    (fun i t ⟨_, _, _, st, _⟩ => st) ?_ ?_ ⟨m, news, ⟨_, _, rfl⟩, ⟨⟨_, G.enum⟩, G.iter, isL (s := { s with heap := h }) G.news hm⟩, ⟨G.fr, G.news⟩, G.off, h0⟩
  · rintro i _ T vals h₂ tk₂ lt ⟨m₁, nw, ⟨h₁, tk₁, rfl⟩, st, ⟨F₁, N₁⟩, off₁, hJ⟩ ⟨t, v, hv, rfl⟩ tup ⟨⟨last, en⟩, ⟨oit, at_it, is_it⟩, lst⟩ k
    obtain ⟨F₂, N₂⟩ := step k off₁ F₁ N₁
    obtain ⟨oe, at_e, as_e⟩ : ∃ oe, h₂.get? e = some oe ∧ ∀ h' : Heap, h'.get? e = some oe → IsEnum h' e it ((i + 1 : Nat) : Int) last := ⟨_, en, fun _ x => x⟩
    -- the two names are bound, in their order
    refine wpAny_assign_Tuple hh tup rfl rfl fun h₃ new₃ => ?_
    have k₃ : ∀ b o, h₂.get? b = some o → h₃.get? b = some o := fun b o at_ => new₃ b o (Nat.ne_of_lt (Heap.lt_size at_)) at_
    refine wpAny_bind (m := holding _ _) (wpAny_holding (wpAny_assign_Name (wpAny_storeName_local hxi (F₂.keeps k₃).ns (fun h₄ ns₄ only₄ => ?_) hpk)))
    refine wpAny_bind (m := holding _ _) (wpAny_holding (wpAny_assign_Name (wpAny_storeName_local hxc ns₄ (fun h₅ ns₅ only₅ => wpAny_pure ?_) hpk)))
    have F₅ := ((F₂.keeps k₃).set ns₄ only₄).set ns₅ only₅
    have N₅ := ((N₂.grown k₃).set only₄).set only₅
    have k₅ : ∀ b o, b ≠ env.locals → h₂.get? b = some o → h₅.get? b = some o := fun b o ne at_ => (only₅.2 b ne).trans ((only₄.2 b ne).trans (k₃ b o at_))
    have two : News h₀ env.locals h₅ ((e, oe) :: (it, oit) :: nw) := fun p hp => by
      rcases List.mem_cons.mp hp with rfl | hp
      · exact ⟨k₅ _ _ G.eL.1 at_e, G.eL⟩
      · rcases List.mem_cons.mp hp with rfl | hp
        · exact ⟨k₅ _ _ G.iL.1 at_it, G.iL⟩
        · exact N₅ p hp
    refine wpP_mono (turn i v t m₁ nw h₅ _ e it oe oit (by simpa using hv) hJ off₁ F₅ two) ?_ fun _ _ no => no
    have back : ∀ t, TurnEnd2 h₀ env.locals s e it oe oit (J (i + 1)) t → ∃ m' nw, (∃ h tk, t = { s with heap := h, toks := tk }) ∧ ((∃ last, IsEnum t.heap e it ((i + 1 : Nat) : Int) last) ∧ t.heap.IsListIter it a (i + 1) ∧ t.heap.IsList a vs.toArray) ∧ (Fr h₀ env.locals t.heap m' ∧ News h₀ env.locals t.heap nw) ∧ (∀ p ∈ nw, p.1 ≠ e ∧ p.1 ≠ it) ∧ J (i + 1) m' nw := by
      rintro _ ⟨h₆, tk₆, m₆, nw₆, rfl, F₆, N₆, off₆, hJ₆⟩
      have rest : News h₀ env.locals h₆ nw₆ := fun p hp => N₆ p (.tail _ (.tail _ hp))
      exact ⟨m₆, nw₆, ⟨_, _, rfl⟩, ⟨⟨last, as_e _ (N₆ (e, oe) (.head _)).1⟩, ⟨oit, (N₆ (it, oit) (.tail _ (.head _))).1, is_it⟩, isL (s := { s with heap := h₆ }) rest (hkeep _ _ _ hJ₆)⟩, ⟨F₆, rest⟩, fun p hp => ⟨off₆ p hp _ (.head _), off₆ p hp _ (.tail _ (.head _))⟩, hJ₆⟩
    rintro (_ | _ | _ | r) t q
    · exact back t q
    · exact q
    · exact back t q
    · exact q
  · rintro _ h₂ tk₂ ⟨m₁, nw, ⟨h₁, tk₁, rfl⟩, st, ⟨F₁, N₁⟩, off₁, hJ⟩ k
    obtain ⟨F₂, N₂⟩ := step k off₁ F₁ N₁
    exact fin h₂ tk₂ m₁ nw F₂ N₂ (by simpa using hJ)
end
end Mine
end
section
open PySem PySem.W PyProof.Rows PySem.Calls
set_option maxRecDepth 100000
namespace Mine
section facts
theorem slot_map_next : Slot "map" "__next__" "map.__next__" := slot_by "map" "__next__" (by kernel_rfl) (by kernel_rfl) (by decide +kernel) (by kernel_rfl)
theorem slot_map_iter : Slot "map" "__iter__" "map.__iter__" := slot_by "map" "__iter__" (by kernel_rfl) (by kernel_rfl) (by decide +kernel) (by kernel_rfl)
theorem slot_map_init : Slot "map" "__init__" "object.__init__" := slot_by "object" "__init__" (by kernel_rfl) (by kernel_rfl) (by decide +kernel) (by kernel_rfl)
theorem entry_map_iter : entryFor table "map.__iter__" = some Builtin.«dict_keyiterator.__iter__» :=
  entryFor_alias (id' := "dict_keyiterator.__iter__") rfl rfl (by decide +kernel) (by kernel_rfl)
theorem entry_map_next : entryFor table "map.__next__" = some Builtin.«map.__next__» := entryFor_of_tree (by kernel_rfl)
theorem entry_map_new : entryFor table "map.__new__" = some Builtin.«map.__new__» := entryFor_of_tree (by kernel_rfl)
theorem owner_map : Manifest.owners.lookup (String.ofList "map".toList.reverse.reverse) = some Manifest.sig_map := by kernel_rfl
theorem args_map_next (a : Value) : argsOk "map.__next__" ⟨[a], []⟩ := args_by "__next__" "map" (by kernel_rfl) owner_map (by kernel_rfl)
theorem args_map_iter (a : Value) : argsOk "map.__iter__" ⟨[a], []⟩ := args_by "__iter__" "map" (by kernel_rfl) owner_map (by kernel_rfl)
theorem mro_map : mroOf (.type "map") = pure [.type "map", .type "object"] := by rw [mroOf_type]; kernel_rfl
theorem lookup_map_new : typeLookup (.type "map") "__new__" = pure (some (.builtin "map.__new__")) := by rw [typeLookup_type, builtinLookup_eq_fast]; kernel_rfl
theorem sub_map : isSubtype (.type "map") (.type "map") = pure true := by rw [isSubtype_type]; kernel_rfl
theorem called_map : TypeCalled "map" "map.__new__" "object.__init__" where
  mro := ⟨_, _, mro_map⟩
  sub := sub_map
  init := slot_map_init
  made := madeBy_type mro_map lookup_map_new (by decide +kernel)
  plain := by decide +kernel
  notType := by decide +kernel
  canCreate := by decide +kernel
theorem typeCall_map_2 (a b : Value) : checkTypeCall "map" ⟨[a, b], []⟩ = pure () := by kernel_rfl
theorem newCall_map_2 (a b : Value) : checkBuiltinCall "map.__new__" ⟨[.type "map", a, b], []⟩ = pure () := by kernel_rfl
theorem map_no_len : typeLookup (.type "map") "__len__" = pure none := by rw [typeLookup_type, builtinLookup_eq_fast]; kernel_rfl
theorem map_no_hint : typeLookup (.type "map") "__length_hint__" = pure none := by rw [typeLookup_type, builtinLookup_eq_fast]; kernel_rfl
end facts
abbrev mapObj (T : Addr) (f : Value) : Obj := { cls := .type "map", dict := none, data := .fields #[.ref T, f], slots := #[] }
theorem meets_map_new (f l : Addr) (items : Array Value) :
    Meets (Builtin.«map.__new__» ⟨[.type "map", .ref f, .ref l], []⟩) (fun _ R s => s.heap.IsList l items ∧
      R (.ok (.ret (.ref ((s.heap.push { cls := .type "list_iterator", data := .fields #[.ref l, .int 0 0] }).push { cls := .type "tuple", data := .seq #[.ref s.heap.objs.size] }).objs.size)))
        { s with heap := ((s.heap.push { cls := .type "list_iterator", data := .fields #[.ref l, .int 0 0] }).push { cls := .type "tuple", data := .seq #[.ref s.heap.objs.size] }).push (mapObj (s.heap.push { cls := .type "list_iterator", data := .fields #[.ref l, .int 0 0] }).objs.size (.ref f)) }) :=
  .of_wp fun prog w A R s h => by
    obtain ⟨hp, g, d, tk, os⟩ := s; obtain ⟨hl, h⟩ := h
    have hsub := sub_map
    wp_walk using wpAny_pyIter_list hl
    exact ⟨_, rfl, h⟩
end Mine
end
section
open PySem PySem.W PyProof.Rows PySem.Calls
set_option maxRecDepth 100000
namespace Mine
section
variable {P : Ctx → Prop} {prog : Program} {w : World} {A : Around} {E : Value → Shared → Prop} {s : Shared} {R : Result → Shared → Prop}
/-- a built-in's code runs its own tree -/
theorem den_builtin {id : String} {args : Args} {b : Builtin} (hb : entryFor table id = some b) : (model prog w).den (.builtin id args) = b args := by simp only [model, denote, hb]
theorem codeP_builtin (K : Kept P) {id : String} {args : Args} {b : Builtin} (hb : entryFor table id = some b)
    (h : wpP P (model prog w) (A.under (.builtin id args)) (b args) (onP P (model prog w) A R) (fun e s' => R (.error e) s') s) : codeP P (model prog w) A (.builtin id args) R s :=
  codeP_of_tree K (den_builtin hb ▸ h)
theorem wpP_stack {A : Around} {M : Model} {Q : List (Code × Pos) → Shared → Prop} (h : ∀ st, (∀ x ∈ st, calm x.1 = true) → Q st s) : wpP Clean M A stack Q E s := by
  rintro ⟨Γ, known, here, under⟩ p
  refine (Sem.wp_stack ..).mpr (h _ fun x hx => ?_)
  rcases List.mem_cons.mp hx with rfl | hx
  · exact here
  · exact under x hx
end
section facts
theorem slot_ba_init : Slot "bytearray" "__init__" "bytearray.__init__" := slot_by "bytearray" "__init__" (by kernel_rfl) (by kernel_rfl) (by decide +kernel) (by kernel_rfl)
theorem mro_ba : mroOf (.type "bytearray") = pure [.type "bytearray", .type "object"] := by rw [mroOf_type]; kernel_rfl
theorem lookup_ba_new : typeLookup (.type "bytearray") "__new__" = pure (some (.builtin "bytearray.__new__")) := by rw [typeLookup_type, builtinLookup_eq_fast]; kernel_rfl
theorem called_ba : TypeCalled "bytearray" "bytearray.__new__" "bytearray.__init__" where
  mro := ⟨_, _, mro_ba⟩
  sub := PySem.F.isi_self_bytearray
  init := slot_ba_init
  made := madeBy_type mro_ba lookup_ba_new (by decide +kernel)
  plain := by decide +kernel
  notType := by decide +kernel
  canCreate := by decide +kernel
theorem typeCall_ba_1 (a : Value) : checkTypeCall "bytearray" ⟨[a], []⟩ = pure () := by kernel_rfl
theorem newCall_ba_1 (a : Value) : checkBuiltinCall "bytearray.__new__" ⟨[.type "bytearray", a], []⟩ = pure () := by kernel_rfl
theorem entry_ba_new : entryFor table "bytearray.__new__" = some Builtin.«list.__new__» :=
  entryFor_alias (id' := "list.__new__") rfl rfl (by decide +kernel) (by kernel_rfl)
theorem entry_ba_init : entryFor table "bytearray.__init__" = some Builtin.«bytearray.__init__» := entryFor_of_tree (by kernel_rfl)
theorem plain_ba_new : plainId "bytearray.__new__" = true := by decide +kernel
theorem owner_ba : Manifest.owners.lookup (String.ofList "bytearray".toList.reverse.reverse) = some Manifest.sig_bytearray := by kernel_rfl
theorem args_ba_init (a b : Value) : argsOk "bytearray.__init__" ⟨[a, b], []⟩ := args_by "__init__" "bytearray" (by kernel_rfl) owner_ba (by kernel_rfl)
set_option maxHeartbeats 4000000 in
theorem owner_ba_new : ("bytearray.__new__".splitOn ".__new__").headD "" = "bytearray" := by simp +decide [String.splitOn, String.splitOnAux]
end facts
end Mine
end
section
open PySem PySem.W PyProof.Rows PySem.Calls
set_option maxRecDepth 100000
namespace Mine
abbrev baObj (b : Array UInt8) : Obj := { cls := .type "bytearray", dict := none, data := .bytearray b 0, slots := #[] }
section
variable {P : Ctx → Prop} {prog : Program} {w : World} {A : Around} {E : Value → Shared → Prop} {s : Shared} {R : Result → Shared → Prop}
/-- bytearray.__new__ makes an empty one, whatever else it is given -/
theorem code_ba_new (a : Value) {Q₁ : Value → Shared → Prop} (h : Q₁ (.ref s.heap.objs.size) { s with heap := s.heap.push (baObj #[]) }) :
    codeAny (model prog w) A (.call (.builtin "bytearray.__new__") ⟨[.type "bytearray", a], []⟩) (wants Q₁ E) s := by
  refine codeAny_call_builtin_code (plainId_quiet plain_ba_new _) (wpAny_of_eq (newCall_ba_1 a) (codeAny_builtin_stack entry_ba_new rfl fun _ _ => ?_))
  dsimp only
  rw [owner_ba_new, Around.under_plainId plain_ba_new]
  refine wpAny_bind (wpAny_of_eq (a := true) rfl ?_)
  rw [if_neg (by decide)]
  refine wpAny_bind (wpAny_of_eq PySem.F.isi_self_bytearray ?_)
  rw [if_neg (by decide)]
  refine wpAny_bind (wpAny_pure ?_)
  exact wpAny_bind (wpAny_newObj_type (wpAny_pure h))
theorem type_call_ba (K : Kept P) {v : Value} {Q Q₁ : Value → Shared → Prop} (hnew : codeAny (model prog w) A.in1 (.call (.builtin "bytearray.__new__") ⟨[.type "bytearray", v], []⟩) (wants Q₁ (fun _ _ => False)) s)
    (hnext : ∀ obj s₁, Q₁ obj s₁ → s₁.TypeIs obj "bytearray" ∧ wpP P (model prog w) A.in1 (call (.builtin "bytearray.__init__") [obj, v]) (fun r s₂ => r = .none ∧ Q obj s₂) E s₁) :
    wpP P (model prog w) A (call (.type "bytearray") [v]) Q E s := by
  refine wpP_call K (codeP_of_tree K ?_)
  show wpP P _ _ (callAny (.type "bytearray") _) _ _ _
  refine wpP_pure ⟨Code.quiet_builtin _ (by decide +kernel), rfl, codeP_builtin K F.entry_type_call ?_⟩
  rw [Around.under_plain (weight_type_call_type "bytearray" [v] []) rfl]
  unfold Builtin.«type.__call__»
  dsimp only
  rw [if_neg (by decide)]
  rw [if_neg (by rw [called_ba.canCreate]; decide)]
  refine wpP_bind (wpP_of_eq (typeCall_ba_1 v) ?_)
  refine wpP_bind (wpP_of_eq mro_ba ?_)
  rw [if_neg (by decide)]
  refine wpP_bind (wpP_of_eq called_ba.made ?_)
  dsimp only
  refine wpP_bind (wpP_pure ?_)
  refine wpP_bind (wpP_holding (wpP_call K (.of_any (codeAny_mono hnew fun r s₁ hr => ?_))))
  cases r with
  | error e => exact hr.elim
  | ok fl =>
    cases fl with
    | ret obj =>
      obtain ⟨hT, hi⟩ := hnext obj s₁ hr
      refine wpP_bindA (wpAny_isInstance hT PySem.F.isi_self_bytearray ?_)
      rw [if_neg (by decide)]
      refine wpP_bind (wpP_holding ?_)
      simp only [callSpecial?]
      refine wpP_bindA (wpAny_specialOf hT slot_ba_init.lookup ?_)
      simp only [slot_ba_init.bind]
      refine wpP_holding (wpP_bind (wpP_pure (wpP_bind (wpP_mono hi (fun r s₂ hr => ?_) fun _ _ x => x))))
      obtain ⟨rfl, hq⟩ := hr
      refine wpP_pure ?_
      dsimp only
      rw [if_neg (by decide)]
      exact wpP_pure hq
    | _ => exact hr.elim
end
end Mine
end
section
open PySem PySem.W PyProof.Rows PySem.Calls
set_option maxRecDepth 100000
namespace Mine
section
variable {P : Ctx → Prop} {prog : Program} {w : World} {A : Around} {E : Value → Shared → Prop} {s : Shared} {R : Result → Shared → Prop}
/-- a built-in is called by its own tree, once its arguments have been looked at -/
theorem call_own (K : Kept P) {id : String} {b : Builtin} {vs : List Value} {Q : Value → Shared → Prop} (plain : plainId id = true) (calm_ : calm (.builtin id ⟨vs, []⟩) = true) (entry : entryFor table id = some b)
    (checked : ∀ (E : Value → Shared → Prop) (Q' : Unit → Shared → Prop), Q' () s → wpAny (model prog w) A.in1 (checkBuiltinCall id ⟨vs, []⟩) Q' E s)
    (h : wpP P (model prog w) A.in1 (b ⟨vs, []⟩) (fun fin t => ∃ v, fin = .done (.ret v) ∧ Q v t) E s) : wpP P (model prog w) A (call (.builtin id) vs) Q E s := by
  have quiet := plainId_quiet plain ⟨vs, []⟩
  refine wpP_call K (codeP_of_tree K (wpP_bindA (m := checkBuiltinCall id ⟨vs, []⟩) (checked _ _ (wpP_pure ⟨quiet, calm_, codeP_builtin K entry ?_⟩))))
  rw [Around.under_plainId plain]
  refine wpP_mono h ?_ fun _ _ e => e
  rintro _ t ⟨v, rfl, q⟩
  exact q
theorem rel_lookup : typeLookup (.type "bytearray") "__release_buffer__" = pure (some (.builtin "bytearray.__release_buffer__")) := by rw [typeLookup_type, builtinLookup_eq_fast]; kernel_rfl
theorem rel_ends : ("bytearray.__release_buffer__" : String).endsWith ("." ++ "__release_buffer__") = true := by decide +kernel
theorem rel_drop : ("bytearray.__release_buffer__" : String).dropRight ("__release_buffer__".length + 1) = "bytearray" := by decide +kernel
theorem slot_ba_release {a : Addr} {o : Obj} (ho : s.heap.get? a = some o) (hc : o.cls = .type "bytearray") {Q : Bool → Shared → Prop} (h : Q false s) : wpAny (model prog w) A (Builtin.Bytes.ownRelease (.ref a)) Q E s := by
  have hT : s.TypeIs (.ref a) "bytearray" := ⟨o, ho, hc⟩
  unfold Builtin.Bytes.ownRelease Builtin.Bytes.slotIsOwn
  refine wpAny_bind ?_
  refine wpAny_bind (wpAny_specialOf hT rel_lookup ?_)
  dsimp only
  rw [if_neg (by rw [rel_ends]; decide), rel_drop]
  exact wpAny_isInstance hT PySem.F.isi_self_bytearray (wpAny_pure h)
theorem exported_no {v : Value} {Q : Bool → Shared → Prop} (h : Q false s) : wpP Clean (model prog w) A (Builtin.Bytes.exported v) Q E s := by
  unfold Builtin.Bytes.exported
  refine wpP_bind (wpP_stack fun st hst => wpP_pure ?_)
  refine cast ?_ h
  refine congrArg (fun b => Q b s) (Eq.symm ?_)
  rw [List.any_eq_false]
  intro x hx
  have hc := hst x hx
  split
  · exact absurd (show (!(holdIds.contains "bytearray.__contains__")) = true from hc) (by rw [show holdIds.contains "bytearray.__contains__" = true from by decide +kernel]; decide)
  · exact absurd (show (!(holdIds.contains "bytearray.__mod__")) = true from hc) (by rw [show holdIds.contains "bytearray.__mod__" = true from by decide +kernel]; decide)
  · exact absurd (show (!(holdIds.contains "bytearray.__rmod__")) = true from hc) (by rw [show holdIds.contains "bytearray.__rmod__" = true from by decide +kernel]; decide)
  · exact absurd (show (!(holdIds.contains "_struct.pack_into.held")) = true from hc) (by rw [show holdIds.contains "_struct.pack_into.held" = true from by decide +kernel]; decide)
  · exact absurd (show (!(holdIds.contains "bytearray.find.held")) = true from hc) (by rw [show holdIds.contains "bytearray.find.held" = true from by decide +kernel]; decide)
  · rename_i id u tail kw p _ _ _ _ _
    have : Builtin.Bytes.decodersThatHold.contains id = false := by
      cases q : Builtin.Bytes.decodersThatHold.contains id with
      | false => rfl
      | true =>
        have h2 : holdIds.contains id = true := by
          unfold holdIds
          rw [List.contains_iff_mem] at q ⊢
          exact List.mem_append.mpr (.inr q)
        have h3 : (!(holdIds.contains id)) = true := hc
        rw [h2] at h3
        exact absurd h3 (by decide)
    rw [this, Bool.and_false]
    decide
  · decide
theorem write_ba {B : Addr} {b : Array UInt8} {f : Array UInt8 → Array UInt8} {Q : Unit → Shared → Prop} (ho : s.heap.get? B = some (baObj b)) (hz : (f b).size ≤ 1000000) (h : ∀ h', Heap.SameBut B s.heap h' → h'.get? B = some (baObj (f b)) → Q () { s with heap := h' }) :
    wpAny (model prog w) A (Builtin.Bytes.write (.ref B) f) Q E s := by
  unfold Builtin.Bytes.write updateBytearray
  refine wpAny_bind (wpAny_load ho ?_)
  dsimp only
  refine wpAny_bind (wpAny_update ho ?_)
  have hself := Heap.get?_update_self (Obj.mapBytearray f) ho rfl
  refine wpAny_lookBehind hself ?_ (h _ (Heap.SameBut.update ..) hself)
  show (if (f b).size > sizeLine then _ else _) = none
  rw [if_neg (by rw [sizeLine_eq]; omega)]
theorem init_ba {B : Addr} {n : Nat} {t : Tok} {Q : Value → Shared → Prop} (ho : s.heap.get? B = some (baObj #[])) (hn : n ≤ 1000000)
    (h : ∀ h', Heap.SameBut B s.heap h' → h'.get? B = some (baObj (Array.replicate n 0)) → Q .none { s with heap := h' }) :
    wpP Clean (model prog w) A (call (.builtin "bytearray.__init__") [.ref B, .int n t]) Q E s := by
  have hT : s.TypeIs (.ref B) "bytearray" := ⟨_, ho, rfl⟩
  refine call_own clean_kept slot_ba_init.plain rfl entry_ba_init (fun _ _ q => slot_ba_init.check _ _ _ _ _ _ _ _ hT (args_ba_init _ _) q) ?_
  unfold Builtin.«bytearray.__init__»
  dsimp only
  refine wpP_bindA (slot_ba_release ho rfl ?_)
  rw [if_neg (by decide)]
  have hb : Builtin.Bytes.bindOptional "bytearray.__init__" "bytearray" ["source", "encoding", "errors"] [.int n t] [] = pure [some (.int n t), none, none] := by kernel_rfl
  refine wpP_bind (wpP_of_eq hb ?_)
  dsimp only
  refine wpP_bind (wpP_of_eq (a := ()) rfl ?_)
  refine wpP_bind (wpP_of_eq (a := ()) rfl ?_)
  refine wpP_bind ?_
  show wpP _ _ _ (Builtin.Bytes.exported _ >>= _) _ _ _
  refine wpP_bind (exported_no ?_)
  show wpP _ _ _ (Builtin.Bytes.exportsOf _ >>= fun b => pure (decide (b > 0))) _ _ _
  unfold Builtin.Bytes.exportsOf
  refine wpP_bindA (wpAny_bind (wpAny_load ho (wpAny_pure ?_)))
  refine wpP_pure ?_
  rw [if_neg (by decide)]
  refine .of_any ?_
  refine wpAny_bind (write_ba ho (by simp) fun h₁ hs₁ ho₁ => ?_)
  have hs : asStr? (.int (n : Int) t) = pure none := rfl
  rw [hs]
  simp only [pure_bind]
  simp only [Option.isSome_none, Bool.false_eq_true, if_false]
  simp only [pure_bind]
  have hix : specialOf (.int (n : Int) t) (Str.ofString "__index__") = pure (some (.builtin "int.__index__")) := by
    unfold specialOf
    have e1 : typeOf (.int (n : Int) t) = pure (.type "int") := rfl
    rw [e1]
    simp only [pure_bind]
    exact F.slot_int_index.lookup
  rw [hix]
  simp only [pure_bind]
  simp only [Option.isSome_some, if_true]
  have ha : (asIndex (.int (n : Int) t)).attempt = pure (.ok (n : Int)) := rfl
  rw [ha]
  simp only [pure_bind]
  have hf : (!Builtin.Bytes.fitsIndex (n : Int)) = false := by
    unfold Builtin.Bytes.fitsIndex
    simp only [Bool.not_eq_false', Bool.and_eq_true, decide_eq_true_eq]
    omega
  have hl : Builtin.Bytes.tooLong ((n : Int).toNat) = false := KBy.tooLong_not (by simp; omega)
  have he : ((n : Int) == 2 ^ 63 - 1) = false := by
    rw [beq_eq_false_iff_ne]; omega
  rw [if_neg (by rw [hf]; exact Bool.false_ne_true), if_neg (by omega), if_neg (by rw [he]; exact Bool.false_ne_true), if_neg (by rw [hl]; exact Bool.false_ne_true)]
  refine wpAny_bind (wpAny_rule ?_)
  by_cases h0 : (n : Int) > 0
  · rw [if_pos h0]
    refine wpAny_bind (write_ba ho₁ (by simp; omega) fun h₂ hs₂ ho₂ => ?_)
    exact wpAny_pure ⟨_, rfl, h h₂ (hs₁.trans hs₂) (by simpa using ho₂)⟩
  · rw [if_neg h0]
    have : n = 0 := by omega
    subst this
    exact wpAny_pure ⟨_, rfl, h h₁ hs₁ ho₁⟩
end
end Mine
end
section
open PySem PySem.W PyProof.Rows PySem.Calls
set_option maxRecDepth 100000
namespace Mine
section facts
theorem slot_ba_setitem : Slot "bytearray" "__setitem__" "bytearray.__setitem__" := slot_by "bytearray" "__setitem__" (by kernel_rfl) (by kernel_rfl) (by decide +kernel) (by kernel_rfl)
theorem entry_ba_setitem : entryFor table "bytearray.__setitem__" = some Builtin.«bytearray.__setitem__» := entryFor_of_tree (by kernel_rfl)
theorem args_ba_setitem (a b c : Value) : argsOk "bytearray.__setitem__" ⟨[a, b, c], []⟩ := args_by "__setitem__" "bytearray" (by kernel_rfl) owner_ba (by kernel_rfl)
theorem ba_no_bytes : typeLookup (.type "bytearray") "__bytes__" = pure none := by rw [typeLookup_type, builtinLookup_eq_fast]; kernel_rfl
theorem ba_no_index : typeLookup (.type "bytearray") "__index__" = pure none := by rw [typeLookup_type, builtinLookup_eq_fast]; kernel_rfl
theorem ba_buffer : typeLookup (.type "bytearray") "__buffer__" = pure (some (.builtin "bytearray.__buffer__")) := by rw [typeLookup_type, builtinLookup_eq_fast]; kernel_rfl
theorem buf_ends : ("bytearray.__buffer__" : String).endsWith ("." ++ "__buffer__") = true := by decide +kernel
theorem buf_drop : ("bytearray.__buffer__" : String).dropRight ("__buffer__".length + 1) = "bytearray" := by decide +kernel
end facts
section
variable {prog : Program} {w : World} {A : Around} {E : Value → Shared → Prop} {s : Shared} {h₀ : Heap} {L : Addr} {m : Str → Option Value} {news : List (Addr × Obj)}
theorem call_ba_K {n : Nat} {t : Tok} {Q : Value → Shared → Prop} (F : Fr h₀ L s.heap m) (N : News h₀ L s.heap news) (hn : n ≤ 1000000)
    (h : ∀ h' B, Fr h₀ L h' m → News h₀ L h' ((B, baObj (Array.replicate n 0)) :: news) → (∀ p ∈ news, p.1 < B) → Q (.ref B) { s with heap := h' }) :
    wpP Clean (model prog w) A (call (.type "bytearray") [.int n t]) Q E s := by
  refine type_call_ba (Q₁ := fun obj s₁ => obj = .ref s.heap.objs.size ∧ s₁ = { s with heap := s.heap.push (baObj #[]) }) clean_kept (code_ba_new _ ⟨rfl, rfl⟩) ?_
  rintro obj s₁ ⟨rfl, rfl⟩
  have g : (s.heap.push (baObj #[])).get? s.heap.objs.size = some (baObj #[]) := Heap.get?_push_size _ rfl
  have up : ∀ b o, s.heap.get? b = some o → (s.heap.push (baObj #[])).get? b = some o := fun b o e => Heap.get?_push_of_some _ e
  obtain ⟨f1, f2⟩ := fresh_I F
  refine ⟨⟨_, g, rfl⟩, init_ba g hn fun h' hs ho => ⟨rfl, h h' _ ((F.keeps up).change hs (Ne.symm f1) f2) (fun p hp => ?_) fun p hp => Heap.lt_size (N p hp).1⟩⟩
  rcases List.mem_cons.mp hp with rfl | hp
  · exact ⟨ho, Ne.symm f1, f2⟩
  · exact ⟨(hs.2 _ (Nat.ne_of_lt (Heap.lt_size (N p hp).1))).trans (up _ _ (N p hp).1), (N p hp).2⟩
theorem setItem_ba {B : Addr} {b : Array UInt8} {k x : Int} {t u : Tok} {Q : Unit → Shared → Prop} (ho : s.heap.get? B = some (baObj b)) (h0 : 0 ≤ k) (h1 : k < b.size) (hz : b.size ≤ 1000000) (hx0 : 0 ≤ x) (hx : x < 256)
    (h : ∀ h', Heap.SameBut B s.heap h' → h'.get? B = some (baObj (b.setIfInBounds k.toNat x.toNat.toUInt8)) → Q () { s with heap := h' }) :
    wpAny (model prog w) A (setItem (.ref B) (.int k t) (.int x u)) Q E s := by
  have hT : s.TypeIs (.ref B) "bytearray" := ⟨_, ho, rfl⟩
  unfold setItem
  refine wpAny_holding ?_
  first | refine wpAny_bind (wpAny_pure ?_) | skip
  refine wpAny_bind (wpAny_sequenceKey hT (by decide) ?_)
  refine wpAny_bind (wpAny_callSpecial?_slot (name := Str.ofString "__setitem__") hT slot_ba_setitem (wpAny_call_entry slot_ba_setitem hT entry_ba_setitem ?_ (args_ba_setitem _ _ _)))
  unfold Builtin.«bytearray.__setitem__»
  simp only [List.isEmpty_nil, Bool.not_true, Bool.false_eq_true, if_false]
  refine wpAny_bind ?_
  unfold Builtin.Bytes.subscript?
  refine wpAny_bind (wpAny_specialOf (typeIs_int _ _ t) F.slot_int_index.lookup ?_)
  simp only [Option.isNone_some, Bool.false_eq_true, if_false]
  have ha : asIndex (.int k t) = pure k := rfl
  rw [ha]
  simp only [pure_bind]
  have hf : (!Builtin.Bytes.fitsIndex k) = false := by
    unfold Builtin.Bytes.fitsIndex
    simp only [Bool.not_eq_false', Bool.and_eq_true, decide_eq_true_eq]
    omega
  rw [if_neg (by rw [hf]; exact Bool.false_ne_true)]
  refine wpAny_pure ?_
  dsimp only
  refine wpAny_bind ?_
  unfold Builtin.Bytes.byteValue
  have hb : asIndex (.int x u) = pure x := rfl
  rw [hb]
  simp only [pure_bind]
  have hr : (decide (x < 0) || decide (x ≥ 256)) = false := by
    rw [Bool.or_eq_false_iff, decide_eq_false_iff_not, decide_eq_false_iff_not]; omega
  rw [if_neg (by rw [hr]; exact Bool.false_ne_true)]
  refine wpAny_pure ?_
  refine wpAny_bind ?_
  unfold Builtin.Bytes.payload Builtin.Bytes.payload?
  refine wpAny_bind (wpAny_bind (wpAny_load ho ?_))
  refine wpAny_pure (wpAny_pure ?_)
  have hi : seqIndex? k b.size = some k.toNat := by
    have hn : ¬ k < 0 := by omega
    simp [seqIndex?, hn, h0, h1]
  rw [hi]
  dsimp only
  refine wpAny_bind (write_ba ho (by simpa using hz) fun h' hs ho' => ?_)
  exact wpAny_pure ⟨_, rfl, wpAny_pure (h h' hs ho')⟩
/-- the octets of a bytearray, lent -/
theorem buffer_ba {B : Addr} {b : Array UInt8} {id : String} {full : Bool} {Q : Option (Array UInt8) → Shared → Prop} (ho : s.heap.get? B = some (baObj b)) (h : Q (some b) s) : wpAny (model prog w) A (Builtin.Bytes.buffer? id (.ref B) full) Q E s := by
  have T : s.TypeIs (.ref B) "bytearray" := ⟨_, ho, rfl⟩
  have special : ∀ {Q' : Option Value → Shared → Prop}, Q' (some (.builtin "bytearray.__buffer__")) s → wpAny (model prog w) A (specialOf (.ref B) "__buffer__") Q' E s := fun q => wpAny_specialOf T ba_buffer q
  have own : wpAny (model prog w) A (Builtin.Bytes.slotIsOwn (.ref B) "__buffer__") (fun r t => r = true ∧ t = s) E s := by
    refine wpAny_bind (special ?_)
    show wpAny _ _ (if (!("bytearray.__buffer__" : String).endsWith ("." ++ "__buffer__")) = true then _ else _) _ _ _
    rw [buf_ends, if_neg (by decide), buf_drop]
    exact wpAny_isInstance T PySem.F.isi_self_bytearray ⟨rfl, rfl⟩
  refine wpAny_bind (special (wpAny_bind (wpAny_mono own ?_ fun _ _ e => e)))
  rintro _ _ ⟨rfl, rfl⟩
  rw [if_neg (by decide)]
  refine wpAny_bind (special (wpAny_bind (slot_ba_release ho rfl ?_)))
  rw [if_neg (by decide)]
  unfold Builtin.Bytes.payload Builtin.Bytes.payload?
  exact wpAny_bind (wpAny_bind (wpAny_bind (wpAny_load ho (wpAny_pure (wpAny_pure (wpAny_pure h))))))
/-- the octets of a bytearray, as bytes -/
theorem call_bytes_ba {B : Addr} {b : Array UInt8} {Q : Value → Shared → Prop} (ho : s.heap.get? B = some (baObj b)) (hz : b.size ≤ 1000000)
    (h : ∀ t k, Q (.bytes b t) { s with toks := k }) : wpAny (model prog w) A (call (.type "bytes") [.ref B]) Q E s := by
  have T : s.TypeIs (.ref B) "bytearray" := ⟨_, ho, rfl⟩
  -- what bytes.__new__ makes of it
  have new : ∀ (A : Around) (E : Value → Shared → Prop) (Q' : Fin → Shared → Prop), (∀ t k, Q' (.done (.ret (.bytes b t))) { s with toks := k }) → wpAny (model prog w) A (Builtin.«bytes.__new__» ⟨[.type "bytes", .ref B], []⟩) Q' E s := by
    intro A E Q' q
    have ty : isType (.type "bytes") = pure true := rfl
    have codec : ∀ n, Builtin.Bytes.checkCodecArg "bytes.__new__" "bytes" n none = pure () := fun _ => rfl
    unfold Builtin.«bytes.__new__»
    simp only [ty, F.bm_sub, F.bm_bind, codec, pure_bind, Bool.not_true, Bool.false_eq_true, if_false, Option.isSome_none]
    refine wpAny_bind (wpAny_specialOf T ba_no_bytes ?_)
    -- it is no text
    have text : wpAny (model prog w) A (asStr? (.ref B)) (fun r t => r = none ∧ t = s) E s := wpAny_bind (wpAny_load ho (wpAny_pure ⟨rfl, rfl⟩))
    refine wpAny_bind (wpAny_bind (m := asStr? (.ref B)) (wpAny_mono text ?_ fun _ _ e => e))
    rintro _ s ⟨rfl, rfl⟩
    refine wpAny_pure ?_
    rw [if_neg (by decide)]
    refine wpAny_bind (wpAny_specialOf T ba_no_index ?_)
    rw [if_pos (by decide)]
    refine wpAny_bind (m := Builtin.Bytes.buffer? "bytes.__new__" (.ref B) true) (buffer_ba ho (wpAny_bind (wpAny_rule (wpAny_bind (wpAny_mkBytes ?_ (by rw [sizeLine_eq]; omega))))))
    exact wpAny_pure (q s.toks (s.toks + 1))
  refine callType_codes (Q₁ := fun obj t => t.TypeIs obj "bytes" ∧ Q obj t) F.bm_called (by kernel_rfl) F.entry_object_init (codeAny_of_tree ?_) ?_
  · refine wpAny_bind (m := checkBuiltinCall "bytes.__new__" _) (wpAny_of_eq (F.bm_newCall _) (wpAny_pure ⟨plainId_quiet F.bm_plain _, codeAny_builtin F.bm_entry ?_⟩))
    exact new _ _ _ fun t k => ⟨typeIs_bytes _ _ _, h t k⟩
  · rintro obj t ⟨is, q⟩
    exact ⟨is, F.args_object_init_2 obj _, object_init_meets F.bm_called.init.lookup F.bm_called.made (by decide) _ w _ _ t ⟨is, rfl, q⟩⟩
end
end Mine
end
section
open PySem PySem.W PyProof.Rows PySem.Calls
set_option maxRecDepth 100000
namespace Mine
section
variable {P : Ctx → Prop} {prog : Program} {w : World} {M : Model} {A : Around} {E : Value → Shared → Prop} {s : Shared} {env : Env}
/-- t is m and then k, as far as any walk can tell -/
noncomputable def Steps {α β : Type} (M : Model) (t : Sem α) (m : Sem β) (k : β → Sem α) : Prop := ∀ (P : Ctx → Prop) (A : Around) (Q : α → Shared → Prop) (E : Value → Shared → Prop) (s : Shared), wpP P M A (m >>= k) Q E s → wpP P M A t Q E s
theorem Steps.go {α β : Type} {t : Sem α} {m : Sem β} {k : β → Sem α} (is : Steps M t m k) {Q : α → Shared → Prop} {Q' : β → Shared → Prop} (h : wpP P M A m Q' E s) (on : ∀ b s', Q' b s' → wpP P M A (k b) Q E s') : wpP P M A t Q E s :=
  is _ _ _ _ _ (wpP_bind (wpP_mono h on fun _ _ e => e))
theorem steps_execs (st : Stmt) (rest : List Stmt) : Steps M (execs (st :: rest) env) (exec st env) (fun f => match f with | .next => execs rest env | f => pure f) := fun _ _ _ _ _ h => h
theorem steps_return (e : Expr) (pos : Pos) : Steps M (exec (.Return (some e) pos) env) (eval e env) (fun v => pure (.ret v)) := fun _ _ _ _ _ h => wpP_bind (wpP_standAt h)
theorem steps_if (c : Expr) (yes no : List Stmt) (pos : Pos) : Steps M (exec (.If c yes no pos) env) (isTrue c env (eval c env)) (fun b => if b = true then execs yes env else execs no env) := fun _ _ _ _ _ h => wpP_bind (wpP_standAt h)
theorem steps_list (elts : List Expr) (pos : Pos) : Steps M (eval (.List elts pos) env) (spliced (backTo pos (starEach elts env))) newList := fun _ _ _ _ _ h => wpP_bind (m := standAt pos) (wpP_standAt h)
theorem execsP {st : Stmt} {rest : List Stmt} {Q : Flow → Shared → Prop}
    (h : wpP P M A (exec st env) (fun f s' => match f with | .next => wpP P M A (execs rest env) Q E s' | f => Q f s') E s) : wpP P M A (execs (st :: rest) env) Q E s := by
  refine (steps_execs st rest).go h ?_
  rintro (_ | _ | _ | v) t q
  · exact q
  all_goals exact wpP_pure q
theorem ReturnP {e : Expr} {pos : Pos} {Q : Flow → Shared → Prop} (h : wpP P M A (eval e env) (fun v => Q (.ret v)) E s) : wpP P M A (exec (.Return (some e) pos) env) Q E s := (steps_return e pos).go h fun _ _ q => wpP_pure q
theorem IfP {test : Expr} {body orelse : List Stmt} {pos : Pos} {Q : Flow → Shared → Prop}
    (h : wpP P M A (isTrue test env (eval test env)) (fun b s₂ => if b = true then wpP P M A (execs body env) Q E s₂ else wpP P M A (execs orelse env) Q E s₂) E s) : wpP P M A (exec (.If test body orelse pos) env) Q E s :=
  (steps_if test body orelse pos).go h fun b _ q => by cases b <;> exact q
theorem AssignP {x : Str} {pos' : Pos} {value : Expr} {pos : Pos} {Q : Flow → Shared → Prop} (h : wpP P M A (eval value env) (fun v s₁ => wpAny M A (storeName env x v) (fun _ => Q .next) E s₁) E s)
    (hs : swapsWith value (some (.Name x pos')) pos.line env = pure false := by rfl) : wpP P M A (exec (.Assign [.Name x pos'] value pos) env) Q E s := by
  have is : Steps M (exec (.Assign [.Name x pos'] value pos) env) (eval value env) (fun v => standAt pos' >>= fun _ => bindName env x v >>= fun _ => pure .next) := fun _ _ _ _ _ q => by
    rw [exec_Assign_Name env x pos' value pos hs]
    exact wpP_bind (wpP_standAt q)
  exact is.go h fun v _ q => wpP_bind (wpP_standAt (wpP_bindA (wpAny_bindName (wpAny_mono q (fun _ _ q => wpP_pure q) fun _ _ e => e))))
theorem Compare1P {l r : Expr} {op : CmpOp} {pos : Pos} {whole} {Q : Bool → Shared → Prop}
    (h : wpP P M A (eval l env) (fun a s₁ => wpP P M A (eval r env) (fun b s₂ => wpAny M A (compareOp op a b) (fun c s₃ => wpAny M A (truthy c) Q E s₃) E s₂) E s₁) E s)
    (hm : behindInMarks op r = false := by with_unfolding_all rfl) : wpP P M A (isTrue (.Compare l [op] [r] pos) env whole) Q E s := by
  have unmarked : markedBehindIn op r (eval r env) = eval r env := markedBehindIn_of_false hm
  rw [isTrue_Compare1, unmarked]
  refine wpP_bind (wpP_mono h (fun a s₁ h₁ => ?_) fun _ _ e => e)
  refine wpP_bind (wpP_holding (wpP_mono h₁ (fun b s₂ h₂ => ?_) fun _ _ e => e))
  exact wpP_bind (wpP_standAt (wpP_bind (wpP_operate (.of_any (wpAny_mono h₂ (fun c s₃ h₃ => wpP_holding (.of_any h₃)) fun _ _ e => e)))))
/-- expressions in a row, each evaluated in its turn, Q told of all their values -/
noncomputable def Each (P : Ctx → Prop) (M : Model) (A : Around) (env : Env) (E : Value → Shared → Prop) : List Expr → (List Value → Shared → Prop) → Shared → Prop
  | [], Q => Q []
  | e :: es, Q => wpP P M A (eval e env) (fun v => Each P M A env E es fun vs => Q (v :: vs)) E
theorem splNilP {Q : List Value → Shared → Prop} (h : Q [] s) : Each P M A env E [] Q s := h
theorem splConsP {e : Expr} {rest : List Expr} {Q : List Value → Shared → Prop} (h : wpP P M A (eval e env) (fun v => Each P M A env E rest fun vs => Q (v :: vs)) E s) : Each P M A env E (e :: rest) Q s := h
theorem Each.mono : ∀ {es : List Expr} {Q₁ Q₂ : List Value → Shared → Prop} {s : Shared}, Each P M A env E es Q₁ s → (∀ vs t, Q₁ vs t → Q₂ vs t) → Each P M A env E es Q₂ s
  | [], _, _, _, q, k => k _ _ q
  | _ :: _, _, _, _, q, k => wpP_mono q (fun _ _ q => q.mono fun vs => k (_ :: vs)) fun _ _ e => e
/-- the rows that a call or a display makes of expressions without a star -/
noncomputable def rowsOf (es : List Expr) (env : Env) : List (Bool × Sem Value) := es.map fun e => (false, eval e env)
theorem Each.rows : ∀ {es : List Expr} {Q : List Value → Shared → Prop} {s : Shared}, Each P M A env E es Q s → wpP P M A (spliced (rowsOf es env)) Q E s
  | [], _, _, h => wpP_pure h
  | e :: es, Q, s, h => by
    have first : wpP P M A (eval e env) (fun v => wpP P M A (spliced (rowsOf es env)) (fun vs => Q (v :: vs)) E) E s := wpP_mono h (fun _ _ q => q.rows) fun _ _ e => e
    show wpP P M A (spliced ((false, eval e env) :: rowsOf es env)) Q E s
    unfold spliced
    refine wpP_bind (wpP_mono first (fun v t more => ?_) fun _ _ e => e)
    rw [if_neg (by decide)]
    exact wpP_bind (wpP_pure (wpP_bind (wpP_holding (wpP_mono more (fun _ _ q => wpP_pure q) fun _ _ e => e))))
theorem ListP {elts : List Expr} {pos : Pos} {Q : Value → Shared → Prop} (h : Each P M A env E elts (fun vs s₁ => wpAny M A (newList vs) Q E s₁) s) (plain : backTo pos (starEach elts env) = rowsOf elts env := by rfl) : wpP P M A (eval (.List elts pos) env) Q E s :=
  (steps_list elts pos).go (plain ▸ h.rows) fun _ _ q => .of_any q
theorem CallP {func : Expr} {args : List Expr} {pos : Pos} {Q : Value → Shared → Prop} (h : wpAny M A (eval func env) (fun f => wpP P M A (callWith pos f [] (backTo pos (starEach args env)) []) Q E) E s)
    (is : eval (.Call func args [] pos) env = (eval func env >>= fun f => callWith pos f [] (backTo pos (starEach args env)) []) := by rfl) : wpP P M A (eval (.Call func args [] pos) env) Q E s := is ▸ wpP_bindA h
/-- a call of plain arguments: they are evaluated, then what keeps the callee is asked, then it is called -/
theorem call_rows {pos : Pos} {f : Value} {e : Expr} {es : List Expr} {Q : Value → Shared → Prop} (few : (e :: es).length + 2 * 0 ≤ 30)
    (h : Each P M A env E (e :: es) (fun vs s₁ => wpAny M A (keeperOf f) (fun k s₂ => (k = .machine ∨ k = .frame) ∧ wpP P M A (call f vs) Q E s₂) E s₁) s) (plain : backTo pos (starEach (e :: es) env) = rowsOf (e :: es) env) :
    wpP P M A (callWith pos f [] (backTo pos (starEach (e :: es) env)) []) Q E s := by
  have unstarred : (rowsOf (e :: es) env).any (·.1) = false := by simp [rowsOf]
  have count : (rowsOf (e :: es) env).length = (e :: es).length := by simp [rowsOf]
  have args : wpP P M A (evalArgs f true (rowsOf (e :: es) env) []) (fun a s₁ => a.kw = [] ∧ wpAny M A (keeperOf f) (fun k s₂ => (k = .machine ∨ k = .frame) ∧ wpP P M A (call f a.pos) Q E s₂) E s₁) E s :=
    by
    unfold evalArgs
    refine wpP_bind (m := spliced (rowsOf (e :: es) env)) (wpP_mono h.rows ?_ fun _ _ e => e)
    intro vs t q
    exact wpP_holding (wpP_bind (wpP_pure (wpP_bind (wpP_pure (wpP_pure ⟨rfl, q⟩)))))
  rw [plain]
  unfold callWith
  refine wpP_bind (wpP_holding (wpP_mono args ?_ fun _ _ e => e))
  rintro ⟨vs, kw⟩ s₁ ⟨rfl, q⟩
  refine wpP_bind (wpP_standAt (wpP_bindA (wpAny_mono q ?_ fun _ _ e => e)))
  rintro k s₂ ⟨kind, called⟩
  have after : ∀ {t : Sem Value}, wpP P M A t Q E s₂ → wpP P M A (t >>= fun r => holding [r] point >>= fun _ => pure r) Q E s₂ := fun walked =>
    wpP_bind (wpP_mono walked (fun _ _ q => wpP_bindA (wpAny_holding (wpAny_point (wpP_pure q)))) fun _ _ e => e)
  simp only [unstarred, count, List.any_nil, Bool.or_false, List.length_nil]
  rcases kind with rfl | rfl
  · exact after called
  · rw [if_neg (by omega)]
    exact after (wpP_keep called)
theorem callWith_typeP {pos : Pos} {T : String} {e : Expr} {rest : List Expr} {Q : Value → Shared → Prop} (h : Each P M A env E (e :: rest) (fun vs s₁ => wpP P M A (call (.type T) vs) Q E s₁) s)
    (plain : backTo pos (starEach (e :: rest) env) = rowsOf (e :: rest) env := by rfl) (few : (e :: rest).length + 2 * 0 ≤ 30 := by decide) : wpP P M A (callWith pos (.type T) [] (backTo pos (starEach (e :: rest) env)) []) Q E s := by
  refine call_rows few ?_ plain
  exact h.mono fun vs t q => wpAny_pure ⟨.inl rfl, q⟩
theorem callWith_refP {pos : Pos} {a : Addr} {e : Expr} {rest : List Expr} {Q : Value → Shared → Prop} (h : Each P M A env E (e :: rest) (fun vs s₁ => (∃ o fd, s₁.heap.get? a = some o ∧ o.data = .func fd) ∧ wpP P M A (call (.ref a) vs) Q E s₁) s)
    (plain : backTo pos (starEach (e :: rest) env) = rowsOf (e :: rest) env := by rfl) (few : (e :: rest).length + 2 * 0 ≤ 30 := by decide) : wpP P M A (callWith pos (.ref a) [] (backTo pos (starEach (e :: rest) env)) []) Q E s := by
  refine call_rows few ?_ plain
  refine h.mono ?_
  rintro vs t ⟨⟨o, fd, at_, is⟩, q⟩
  unfold keeperOf
  refine wpAny_bind (wpAny_load at_ ?_)
  rw [is]
  exact wpAny_pure ⟨.inr rfl, q⟩
end
end Mine
end
section
open PySem PySem.W PyProof.Rows PySem.Calls
set_option maxRecDepth 100000
namespace Mine
section
variable {P : Ctx → Prop} {prog : Program} {w : World} {A : Around} {s : Shared} {R : Result → Shared → Prop}
/-- a def's frame: its body, then what it gives back -/
theorem codeP_func (K : Kept P) {body : List Stmt} {env : Env} (h : wpP P (model prog w) (A.deeper env) (execs body env) (fun f t => R (.ok (.ret (match f with | .ret v => v | _ => .none))) t) (fun _ _ => False) s) : codeP P (model prog w) A (.func body env) R s := by
  have ends : ∀ (f : Flow) (t : Shared), R (.ok (.ret (match f with | .ret v => v | _ => .none))) t → wpP P (model prog w) (A.deeper env) (match f with | .ret v => ret v | _ => ret .none) (onP P (model prog w) A R) (fun e t => R (.error e) t) t := by
    rintro (_ | _ | _ | v) t q <;> exact wpP_pure q
  exact codeP_of_tree K (wpP_bindA (m := point) (wpAny_point (wpP_bind (m := (execs body env).onRaise (leaving env)) (wpP_onRaise (wpP_mono h ends fun _ _ e => e)))))
/-- the tree of a call of a plain def: its arguments bound, its frame made, on to its body -/
theorem tree_def {a : Addr} {args : Args} {o : Obj} {fd : FuncData} {body : List Stmt} {binds : List (Str × Value)} {Q : Fin → Shared → Prop} {E : Value → Shared → Prop} (room : A.depth < recursionLimit) (at_ : s.heap.get? a = some o) (is : o.data = .func fd)
    (plain : fd.scope.isCoroutine = false ∧ fd.scope.isGenerator = false ∧ fd.body = .stmts body) (rec_ : s.heap.CodeRec fd.code fd.qualname) (bound : BindsTo s fd args binds)
    (made : ∀ (A' : Around) (Q' : Env → Shared → Prop), (∀ env t, Q (.again (.func body env)) t → t.heap.NoLimit → Q' env t) → wpAny (model prog w) A' (newFunctionEnv fd.scope fd.globals fd.closure binds (fd.qualname ++ ".<locals>.") (some a) fd.code none fd.builtins) Q' E s) :
    wpAny (model prog w) A.in1 (callAny (.ref a) args) Q E s := by
  obtain ⟨c, oc, vs, tq, code, at_c, rows, name⟩ := rec_
  refine wpAny_bind (wpAny_load at_ ?_)
  simp only [is, callFunction, plain.1, plain.2.1, plain.2.2, code]
  refine wpAny_bind (m := field (.ref c) 1) (wpAny_field at_c rows name (wpAny_bind (wpAny_pure ?_)))
  rw [← code]
  refine wpAny_bind (bound _ _ _ _ (wpAny_bind (made _ _ fun env t q lim => wpAny_bind (wpAny_enterFrame lim room (wpAny_pure q)))))
/-- a def's own frame, at L', over the heap h, with its cells -/
structure Framed (h : Heap) (L' : Addr) (env : Env) (scope : Scope) (binds : List (Str × Value)) (h₁ : Heap) (cells : List (Addr × Obj)) : Prop where
  frame : Fr h L' h₁ (bindL env.kindOf binds fun _ => none)
  made : News h L' h₁ cells
  cells : CellsAre (bindC env.kindOf binds fun _ => none) (cellsFrom (L' + 1) scope.names []) cells
/-- a def of the top is called: what is asked is its body's walk, in its new frame -/
theorem def_call (K : Kept P) {name qual : Str} {params : Arguments} {body : List Stmt} {scope : Scope} {dV kV doc pm cdv ct : Value} {an : Option Addr} {a : Addr} {o : Obj} {args : Args} {binds : List (Str × Value)} (room : A.depth < recursionLimit)
    (at_ : s.heap.get? a = some o) (is : o.data = .func (fnOf name qual params body scope dV kV doc pm an cdv ct)) (plain : scope.isCoroutine = false ∧ scope.isGenerator = false ∧ scope.kind = .function) (rec_ : s.heap.CodeRec cdv qual) (limit : s.heap.NoLimit)
    (bound : BindsTo s (fnOf name qual params body scope dV kV doc pm an cdv ct) args binds)
    (kinds : ∀ x ∈ binds, scope.names.lookup x.1 = some .local ∨ (scope.names.lookup x.1 = some .cell ∧ ((cellsFrom (s.heap.objs.size + 1) scope.names []).lookup x.1).isSome = true)) (nodup : ((cellsFrom 0 scope.names []).map (·.1)).Nodup)
    (walk : ∀ h₁ tk cells, Framed s.heap s.heap.objs.size (envOfC qual scope s.heap.objs.size a cdv) scope binds h₁ cells →
      wpP P (model prog w) (A.deeper (envOfC qual scope s.heap.objs.size a cdv)) (execs body (envOfC qual scope s.heap.objs.size a cdv)) (fun f t => R (.ok (.ret (match f with | .ret v => v | _ => .none))) t) (fun _ _ => False) { s with heap := h₁, toks := tk }) :
    codeP P (model prog w) A (.call (.ref a) args) R s := by
  refine codeP_of_tree K (.of_any (tree_def room at_ is ⟨plain.1, plain.2.1, rfl⟩ rec_ bound fun A' Q' on => wpAny_newFunctionEnv_cells plain.2.2 kinds ?_))
  rintro env rfl t ⟨call, cell, _, above⟩
  refine on _ _ ⟨rfl, rfl, codeP_func K ?_⟩ (limit.keeps call.keep)
  have named : ((cellsFrom (s.heap.objs.size + 1) scope.names []).map (·.1)).Nodup := cellsFrom_names scope.names 0 (s.heap.objs.size + 1) [] [] rfl ▸ nodup
  obtain ⟨cells, made, are⟩ := Cl.news (h₀ := s.heap) (h := t.heap) (Nat.le_refl _) fun n c hm => ⟨cell n c (lookup_of_mem_nodup named hm), above n c hm⟩
  obtain ⟨h₁, tk, rfl, _⟩ := call.done
  exact walk h₁ tk cells { frame := ⟨call.ns, call.keep, Nat.le_refl _⟩, made := made, cells := are }
end
section
variable {P : Ctx → Prop} {prog : Program} {w : World} {A₀ A : Around} {s : Shared} {base h₀ : Heap} {outer : List Env} {L : Addr} {m mg mb : Str → Option Value} {env : Env} {news : List (Addr × Obj)} {K : Frag} {p : Program} {loose : List Str} {mean : ExcName → Option Value}
theorem fn_at {oc : Value} {od : Option Addr} {osl : Array (Option Value)} {f : Addr} {fd : FuncData} (X₀ : K.In h₀) (F : Fr h₀ L s.heap m) (ho : K.lookup f = some ⟨oc, od, .func fd, osl⟩) : ∃ o fd, s.heap.get? f = some o ∧ o.data = .func fd := ⟨_, fd, (X₀.keeps F.keep) _ _ ho, rfl⟩
/-- where the caller of a def stands: its frame, its ledger, the program's objects and its top below -/
structure Caller (A₀ A : Around) (base h₀ h : Heap) (outer : List Env) (L : Addr) (m mg mb : Str → Option Value) (env : Env) (news : List (Addr × Obj)) (K : Frag) (p : Program) (loose : List Str) (mean : ExcName → Option Value) : Prop where
  below : Below A₀ base outer h₀
  frame : Fr h₀ L h m
  objs : K.In h₀
  made : News h₀ L h news
  top : Top p loose mean mg mb h₀
  stack : A.frames = some (env :: outer)
  own : env.frame = some L
  kind : env.scope.kind = .function
/-- where its body stands: over a heap g in which the caller's ledger is out of sight -/
structure Callee (A : Around) (base h₀ g : Heap) (outer : List Env) (L L' : Addr) (m mg mb : Str → Option Value) (env env' : Env) (scope : Scope) (binds : List (Str × Value)) (news : List (Addr × Obj)) (K : Frag) (p : Program) (loose : List Str) (mean : ExcName → Option Value) (h₁ : Heap) (cells : List (Addr × Obj)) : Prop where
  caller : Fr h₀ L g m
  frame : Fr g L' h₁ (bindL env'.kindOf binds fun _ => none)
  made : News g L' h₁ (cells ++ news)
  cells : CellsAre (bindC env'.kindOf binds fun _ => none) (cellsFrom (L' + 1) scope.names []) cells
  below : Below A base (env :: outer) g
  objs : K.In g
  top : Top p loose mean mg mb g
  lower : ∀ q ∈ news, q.1 < L'
theorem code_defP (KP : Kept P) {R : Result → Shared → Prop} {name qual : Str} {params : Arguments} {body : List Stmt} {scope : Scope} {dV kV doc pm cdv ct oc : Value} {an od : Option Addr} {osl : Array (Option Value)} {f : Addr} {args : Args} {binds : List (Str × Value)}
    (C : Caller A₀ A base h₀ s.heap outer L m mg mb env news K p loose mean) (at_ : K.lookup f = some ⟨oc, od, .func (fnOf name qual params body scope dV kV doc pm an cdv ct), osl⟩) (rec_ : codeIn K cdv qual = true) (room : A.depth < recursionLimit)
    (bound : BindsTo s (fnOf name qual params body scope dV kV doc pm an cdv ct) args binds) (kinds : (binds.all fun y => scope.names.lookup y.1 == some .local || scope.names.lookup y.1 == some .cell) = true) (nodup : ((cellsFrom 0 scope.names []).map (·.1)).Nodup)
    (walk : ∀ g L' h₁ tk cells, Callee A base h₀ g outer L L' m mg mb env (envOfC qual scope L' f cdv) scope binds news K p loose mean h₁ cells →
      wpP P (model prog w) (A.deeper (envOfC qual scope L' f cdv)) (execs body (envOfC qual scope L' f cdv)) (fun fl t => LeaveK h₀ L m g R (match fl with | .ret v => v | _ => .none) t) (fun _ _ => False) { s with heap := h₁, toks := tk })
    (plain : scope.isCoroutine = false ∧ scope.isGenerator = false ∧ scope.kind = .function) : codeP P (model prog w) A (.call (.ref f) args) R s := by
  obtain ⟨hidden, under, stays, back⟩ := groundX (R := R) C.below C.frame C.made C.stack C.own C.kind
  have K₁ := C.objs.keeps C.frame.keep
  refine def_call KP room (K₁ _ _ at_) rfl plain (codeRec_of K₁ rec_) (C.top.nolimit.keeps C.frame.keep) bound (kindsX kinds _) nodup fun h₁ tk cells G => ?_
  -- the ledger is hidden below, and stands beside the cells above
  have less : ∀ b o, (hideAll s.heap (news.map (·.1))).get? b = some o → s.heap.get? b = some o := fun b o => of_hideAll _
  have gone : ∀ b, s.heap.get? b = none → (hideAll s.heap (news.map (·.1))).get? b = none := fun b q => by
    rcases e : (hideAll s.heap (news.map (·.1))).get? b with _ | o
    · exact e
    · rw [less b o e] at q; cases q
  have both : News (hideAll s.heap (news.map (·.1))) s.heap.objs.size h₁ (cells ++ news) := by
    rintro q hq
    rcases List.mem_append.mp hq with hq | hq
    · exact ⟨(G.made q hq).1, (G.made q hq).2.1, gone _ (G.made q hq).2.2⟩
    · exact ⟨G.frame.keep _ _ (C.made q hq).1, Nat.ne_of_lt (Heap.lt_size (C.made q hq).1), hideAll_none _ (List.mem_map_of_mem hq)⟩
  refine wpP_mono (walk _ s.heap.objs.size h₁ tk cells ?_) (fun fl t left => back _ _ left) fun _ _ e => e
  exact { caller := hidden, frame := ⟨G.frame.ns, fun b o e => G.frame.keep b o (less b o e), Nat.le_of_eq (hideAll_size _ _)⟩, made := both, cells := G.cells, below := under, objs := C.objs.keeps stays, top := C.top.keeps stays, lower := fun q hq => Heap.lt_size (C.made q hq).1 }
end
end Mine
end
section

end
section
open PySem PySem.W PyProof.Rows PySem.Calls
namespace Mine
/-- the common front of two rows -/
noncomputable def lcp {α : Type} [DecidableEq α] : List α → List α → List α
  | x :: xs, y :: ys => if x = y then x :: lcp xs ys else []
  | _, _ => []
section
variable {α : Type} [DecidableEq α]
theorem lcp_comm : ∀ xs ys : List α, lcp xs ys = lcp ys xs
  | [], [] => rfl
  | [], _ :: _ => rfl
  | _ :: _, [] => rfl
  | x :: xs, y :: ys => by
    unfold lcp
    by_cases h : x = y
    · subst h; rw [if_pos rfl, if_pos rfl, lcp_comm xs ys]
    · rw [if_neg h, if_neg (Ne.symm h)]
theorem lcp_self : ∀ xs : List α, lcp xs xs = xs
  | [] => rfl
  | x :: xs => by unfold lcp; rw [if_pos rfl, lcp_self xs]
theorem lcp_at : ∀ (xs ys : List α) (i : Nat), xs.take i = ys.take i → (h1 : i < xs.length) → (h2 : i < ys.length) → xs[i] ≠ ys[i] → lcp xs ys = xs.take i
  | x :: xs, y :: ys, 0, _, _, _, hne => by
    unfold lcp
    rw [if_neg (by simpa using hne)]; rfl
  | x :: xs, y :: ys, i + 1, he, h1, h2, hne => by
    simp only [List.take_succ_cons, List.cons.injEq] at he
    unfold lcp
    rw [if_pos he.1, List.take_succ_cons, lcp_at xs ys i he.2 (by simpa using h1) (by simpa using h2) (by simpa using hne)]
  | [], _, _, _, h1, _, _ => by simp at h1
  | _, [], _, _, _, h2, _ => by simp at h2
theorem lcp_all : ∀ (xs ys : List α), xs.take xs.length = ys.take xs.length → lcp xs ys = xs
  | [], [], _ => rfl
  | [], _ :: _, _ => rfl
  | x :: xs, [], h => by simp at h
  | x :: xs, y :: ys, h => by
    simp only [List.length_cons, List.take_succ_cons, List.cons.injEq] at h
    unfold lcp
    rw [if_pos h.1, lcp_all xs ys h.2]
theorem lcp_mem : ∀ (xs ys : List α) (z : α), z ∈ lcp xs ys → z ∈ xs
  | [], _, z, h => by simp [lcp] at h
  | _ :: _, [], z, h => by simp [lcp] at h
  | x :: xs, y :: ys, z, h => by
    unfold lcp at h
    split at h
    · rcases List.mem_cons.mp h with rfl | h
      · exact List.mem_cons_self
      · exact List.mem_cons_of_mem _ (lcp_mem xs ys z h)
    · simp at h
theorem lcp_len : ∀ (xs ys : List α), (lcp xs ys).length ≤ xs.length
  | [], _ => by simp [lcp]
  | _ :: _, [] => by simp [lcp]
  | x :: xs, y :: ys => by
    unfold lcp
    split
    · simpa using lcp_len xs ys
    · simp
end
/-- the first row does not end behind the second -/
noncomputable def Ordd (xs ys : List (Array UInt8)) : Prop := ∀ i, xs.take i = ys.take i → i < xs.length → i < ys.length
theorem ord_lt : ∀ xs ys : List (Array UInt8), ordL xs ys = .lt → Ordd xs ys
  | [], _, _, i, _, h => by simp at h
  | x :: xs, [], h, _, _, _ => absurd (Nat.compare_eq_lt.mp (ordL_nil' (x :: xs) ▸ h)) (Nat.not_lt_zero _)
  | x :: xs, y :: ys, h, 0, _, _ => by simp
  | x :: xs, y :: ys, h, i + 1, he, hl => by
    simp only [List.take_succ_cons, List.cons.injEq] at he
    rw [ordL, if_pos (by simp [he.1])] at h
    have := ord_lt xs ys h i he.2 (by simpa using hl)
    simpa using this
theorem ord_gt : ∀ xs ys : List (Array UInt8), ordL ys xs = .gt → Ordd xs ys
  | [], _, _, i, _, h => by simp at h
  | x :: xs, [], h, _, _, _ => absurd (Nat.compare_eq_gt.mp (ordL_nil (x :: xs) ▸ h)) (Nat.not_lt_zero _)
  | x :: xs, y :: ys, h, 0, _, _ => by simp
  | x :: xs, y :: ys, h, i + 1, he, hl => by
    simp only [List.take_succ_cons, List.cons.injEq] at he
    rw [ordL, if_pos (by simp [he.1])] at h
    have := ord_gt xs ys h i he.2 (by simpa using hl)
    simpa using this
theorem ord_eq : ∀ xs ys : List (Array UInt8), ordL xs ys = .eq → xs = ys
  | [], [], _ => rfl
  | [], y :: ys, h => absurd (Nat.compare_eq_eq.mp (ordL_nil (y :: ys) ▸ h)) (Nat.succ_ne_zero _).symm
  | x :: xs, [], h => absurd (Nat.compare_eq_eq.mp (ordL_nil' (x :: xs) ▸ h)) (Nat.succ_ne_zero _)
  | x :: xs, y :: ys, h => by
    rw [ordL] at h
    by_cases he : (x.toList == y.toList) = true
    · rw [if_pos he] at h
      rw [Array.toList_inj.mp (beq_iff_eq.mp he), ord_eq xs ys h]
    · rw [if_neg he] at h
      have := order_eq x.toList y.toList
      rw [h] at this
      exact absurd this.symm he
theorem ordd_refl (xs : List (Array UInt8)) : Ordd xs xs := fun _ _ h => h
/-- what min and max pick -/
theorem minmax {xs ys x1 x2 : List (Array UInt8)} (h1 : x1 = if (ordL ys xs == .lt) = true then ys else xs) (h2 : x2 = if (ordL ys xs == .gt) = true then ys else xs) : Ordd x1 x2 ∧ lcp x1 x2 = lcp xs ys := by
  cases ho : ordL ys xs with
  | lt =>
    rw [ho, if_pos (by decide)] at h1
    rw [ho, if_neg (by decide)] at h2
    subst h1 h2
    exact ⟨ord_lt _ _ ho, lcp_comm _ _⟩
  | gt =>
    rw [ho, if_neg (by decide)] at h1
    rw [ho, if_pos (by decide)] at h2
    subst h1 h2
    exact ⟨ord_gt _ _ ho, rfl⟩
  | eq =>
    rw [ho, if_neg (by decide)] at h1
    rw [ho, if_neg (by decide)] at h2
    subst h1 h2
    have := ord_eq _ _ ho
    subst this
    exact ⟨ordd_refl _, rfl⟩
theorem fold_size : ∀ (bs : List (Array UInt8)) (k : Nat), (∀ x ∈ bs, x.size ≤ 1000) → bs.foldl (· + ·.size) k ≤ k + 1000 * bs.length
  | [], k, _ => by simp
  | b :: bs, k, h => by
    rw [List.foldl_cons]
    have h1 := fold_size bs (k + b.size) fun x hx => h x (List.mem_cons_of_mem _ hx)
    have h2 := h b List.mem_cons_self
    rw [List.length_cons]
    omega
end Mine
end
section
open PySem PySem.W PyProof.Rows PySem.Calls
namespace Mine
open PySem.Builtin
theorem joined_go (sep : Array UInt8) : ∀ (bs : List (Array UInt8)) (k : Nat) (acc : Array UInt8), 0 < k → (bs.zipIdx k).foldl (fun out (p : Array UInt8 × Nat) => (if p.2 > 0 then out ++ sep else out) ++ p.1) acc = bs.foldl (fun a x => (a ++ sep) ++ x) acc
  | [], _, _, _ => rfl
  | b :: bs, k, acc, hk => by
    rw [List.zipIdx_cons, List.foldl_cons, List.foldl_cons, joined_go sep bs (k + 1) _ (Nat.succ_pos k)]
    simp only [gt_iff_lt, hk, if_true]
theorem joined_cons (sep b : Array UInt8) (bs : List (Array UInt8)) : Bytes.joined sep (b :: bs) = bs.foldl (fun a x => (a ++ sep) ++ x) b := by
  unfold Bytes.joined
  rw [List.zipIdx_cons, List.foldl_cons]
  have := joined_go sep bs 1 b (by decide)
  simpa using this
theorem joined_nil (sep : Array UInt8) : Bytes.joined sep [] = #[] := rfl
theorem fold_join_size (sep : Array UInt8) : ∀ (bs : List (Array UInt8)) (acc : Array UInt8), (∀ x ∈ bs, x.size ≤ 1000) → (bs.foldl (fun a x => (a ++ sep) ++ x) acc).size ≤ acc.size + (sep.size + 1000) * bs.length
  | [], acc, _ => by simp
  | b :: bs, acc, h => by
    rw [List.foldl_cons]
    have h1 := fold_join_size sep bs ((acc ++ sep) ++ b) fun x hx => h x (List.mem_cons_of_mem _ hx)
    have h2 := h b List.mem_cons_self
    simp only [Array.size_append] at h1
    rw [List.length_cons, Nat.mul_add]
    omega
theorem joined_size {sep : Array UInt8} (hs : sep.size ≤ 3) {bs : List (Array UInt8)} (h : ∀ x ∈ bs, x.size ≤ 1000) (hl : bs.length ≤ 1010) : (Bytes.joined sep bs).size ≤ 16777216 := by
  cases bs with
  | nil => simp [joined_nil]
  | cons b bs =>
    rw [joined_cons]
    have h1 := fold_join_size sep bs b fun x hx => h x (List.mem_cons_of_mem _ hx)
    have h2 := h b List.mem_cons_self
    rw [List.length_cons] at hl
    have h3 : (sep.size + 1000) * bs.length ≤ 1003 * 1010 := Nat.mul_le_mul (by omega) (by omega)
    omega
theorem joined_sum {sep : Array UInt8} (hs : sep.size ≤ 3) {bs : List (Array UInt8)} (h : ∀ x ∈ bs, x.size ≤ 1000) (hl : bs.length ≤ 1010) : bs.foldl (· + ·.size) (sep.size * (bs.length - 1)) ≤ 16777216 := by
  have h1 := fold_size bs (sep.size * (bs.length - 1)) h
  have h2 : sep.size * (bs.length - 1) ≤ 3 * 1010 := Nat.mul_le_mul hs (by omega)
  omega
/-- what commonpath keeps of the pieces -/
noncomputable def keepB (c : Array UInt8) : Bool := c.size != 0 && c.toList != [46]
theorem keepB_empty {c : Array UInt8} (h : (c.size : Int) = 0) : keepB c = false := by
  have : c.size = 0 := by omega
  unfold keepB; rw [this]; rfl
theorem keepB_dot {c : Array UInt8} (h : ¬ (c.toList != [46]) = true) : keepB c = false := by
  unfold keepB; rw [Bool.eq_false_iff.mpr h, Bool.and_false]
theorem keepB_yes {c : Array UInt8} (h : ¬ (c.size : Int) = 0) (h' : (c.toList != [46]) = true) : keepB c = true := by
  unfold keepB; rw [h', Bool.and_true]
  simp only [bne_iff_ne, ne_eq]
  omega
/-- what commonpath gives of two paths without a root -/
noncomputable def commonRaw (b c : Array UInt8) : List (Array UInt8) := lcp ((splitRaw b #[47]).filter keepB) ((splitRaw c #[47]).filter keepB)
theorem common_small {b c : Array UInt8} (hb : b.size ≤ 1000) : (∀ x ∈ commonRaw b c, x.size ≤ 1000) ∧ (commonRaw b c).length ≤ 1010 := by
  constructor
  · intro x hx
    have := lcp_mem _ _ _ hx
    exact Nat.le_trans (split_size (List.mem_filter.mp this).1) hb
  · refine Nat.le_trans (lcp_len _ _) (Nat.le_trans (List.length_filter_le _ _) ?_)
    have := @split_len b #[47]
    omega
end Mine
end
section
open PySem PySem.W PyProof.Rows PySem.Calls
namespace Mine
/-- the octets turned round, so many of them -/
noncomputable def revPart (b : Array UInt8) : Nat → Array UInt8
  | 0 => Array.replicate b.size 0
  | j + 1 => (revPart b j).setIfInBounds (b.size - 1 - j) (b.getD j 0)
theorem revPart_size (b : Array UInt8) : ∀ j, (revPart b j).size = b.size
  | 0 => by simp [revPart]
  | j + 1 => by simp [revPart, revPart_size b j]
theorem revPart_get (b : Array UInt8) : ∀ j, j ≤ b.size → ∀ k, k < b.size → b.size - j ≤ k → (revPart b j)[k]? = some (b.getD (b.size - 1 - k) 0)
  | 0, _, k, hk, h => by omega
  | j + 1, hj, k, hk, h => by
    rw [revPart, Array.getElem?_setIfInBounds]
    split
    · rename_i e
      rw [if_pos (by rw [revPart_size]; omega)]
      have : b.size - 1 - k = j := by omega
      rw [this]
    · exact revPart_get b j (by omega) k hk (by omega)
theorem revPart_all (b : Array UInt8) : revPart b b.size = b.reverse := by
  apply Array.ext
  · rw [revPart_size, Array.size_reverse]
  · intro k h1 h2
    have hk : k < b.size := by rw [revPart_size] at h1; exact h1
    have := revPart_get b b.size (Nat.le_refl _) k hk (by omega)
    rw [Array.getElem?_eq_getElem h1] at this
    have e := Option.some.inj this
    rw [e, Array.getElem_reverse]
    rw [Array.getD_eq_getD_getElem?, Array.getElem?_eq_getElem (by omega)]
    rfl
end Mine
end
section
set_option maxRecDepth 100000
namespace Mine
section
variable {α : Type} [DecidableEq α]
/-- where a row is the same so much farther on -/
noncomputable def same (xs ys : List α) : List Bool := List.zipWith (fun a b => decide (a = b)) xs ys
theorem lcp_same : ∀ xs ys : List α, (lcp xs ys).length = ((same xs ys).takeWhile id).length
  | [], _ => by simp [lcp, same]
  | _ :: _, [] => by simp [lcp, same]
  | x :: xs, y :: ys => by
    unfold lcp same
    rw [List.zipWith_cons_cons]
    by_cases h : x = y
    · rw [if_pos h, List.takeWhile_cons_of_pos (by simpa using h), List.length_cons, List.length_cons, lcp_same xs ys, same]
    · rw [if_neg h, List.takeWhile_cons_of_neg (by simpa using h)]
      rfl
theorem lcp_take : ∀ xs ys : List α, lcp xs ys = xs.take (lcp xs ys).length
  | [], _ => by simp [lcp]
  | _ :: _, [] => by simp [lcp]
  | x :: xs, y :: ys => by
    unfold lcp
    split
    · rw [List.length_cons, List.take_succ_cons, ← lcp_take xs ys]
    · rfl
theorem same_drop (xs ys : List α) (p : Nat) : same (xs.drop p) (ys.drop p) = (same xs ys).drop p := (List.drop_zipWith).symm
theorem same_take (xs ys : List α) (p : Nat) : same (xs.take p) (ys.take p) = (same xs ys).take p := (List.take_zipWith).symm
theorem same_length (xs ys : List α) : (same xs ys).length = min xs.length ys.length := List.length_zipWith
theorem same_rev {xs ys : List α} (h : xs.length = ys.length) : same xs.reverse ys.reverse = (same xs ys).reverse := (List.reverse_zipWith h).symm
theorem same_cut (xs ys : List α) : same xs ys = same xs (ys.take xs.length) := by
  have : same xs ys = (same xs ys).take xs.length := by
    rw [List.take_of_length_le]
    rw [same_length]; omega
  rw [this, ← same_take, List.take_length]
theorem same_map {β : Type} [DecidableEq β] {f : α → β} (hf : ∀ a b, f a = f b → a = b) : ∀ xs ys : List α, same (xs.map f) (ys.map f) = same xs ys
  | [], _ => by simp [same]
  | _ :: _, [] => by simp [same]
  | x :: xs, y :: ys => by
    have := same_map hf xs ys
    unfold same at this ⊢
    rw [List.map_cons, List.map_cons, List.zipWith_cons_cons, List.zipWith_cons_cons, this]
    congr 1
    by_cases h : x = y
    · simp [h]
    · have h' : f x ≠ f y := fun e => h (hf _ _ e)
      simp [h, h']
theorem eq_same : ∀ {xs ys : List α}, xs.length = ys.length → (xs = ys ↔ (same xs ys).all id = true)
  | [], [], _ => by simp [same]
  | [], _ :: _, h => by simp at h
  | _ :: _, [], h => by simp at h
  | x :: xs, y :: ys, h => by
    have := eq_same (xs := xs) (ys := ys) (by simpa using h)
    unfold same at this ⊢
    rw [List.zipWith_cons_cons, List.all_cons, Bool.and_eq_true, ← this, List.cons.injEq]
    simp
/-- the bits of one size -/
noncomputable def bits (ns : List α) (s : Nat) : List Bool := same ns (ns.drop s)
noncomputable def fwd (bs : List Bool) (p : Nat) : Nat := ((bs.drop p).takeWhile id).length
noncomputable def bwd (bs : List Bool) (p : Nat) : Nat := ((bs.take p).reverse.takeWhile id).length
theorem bits_length (ns : List α) (s : Nat) : (bits ns s).length = ns.length - s := by
  unfold bits
  rw [same_length, List.length_drop, Nat.min_eq_right (Nat.sub_le _ _)]
theorem fwd_lcp (ns : List α) (s p : Nat) : (lcp (ns.drop p) (ns.drop (p + s))).length = fwd (bits ns s) p := by
  rw [lcp_same, fwd, bits, ← same_drop, List.drop_drop, Nat.add_comm s p]
theorem bwd_lcp {β : Type} [DecidableEq β] {f : α → β} (hf : ∀ a b, f a = f b → a = b) {ns : List α} {s p : Nat} (h : p + s ≤ ns.length) :
    (lcp ((ns.take p).reverse.map f) ((ns.take (p + s)).reverse.map f)).length = bwd (bits ns s) p := by
  rw [lcp_same, same_map hf, same_cut, bwd, bits, ← same_take]
  have hp : p ≤ ns.length := Nat.le_trans (Nat.le_add_right p s) h
  have h1 : (ns.take p).reverse.length = p := by rw [List.length_reverse, List.length_take, Nat.min_eq_left hp]
  have h2 : (ns.take (p + s)).reverse.take p = ((ns.drop s).take p).reverse := by
    rw [List.take_reverse, List.length_take, List.drop_take]
    rw [Nat.min_eq_left h, Nat.add_sub_cancel_left, Nat.add_sub_cancel]
  rw [h1, h2, same_rev (by rw [List.length_take, List.length_take, List.length_drop, Nat.min_eq_left hp, Nat.min_eq_left (Nat.le_sub_of_add_le h)])]
theorem part_same {ns : List α} {s f l : Nat} (hl : l ≤ ns.length) (hf : f + s ≤ l) : (ns.take (l - s)).drop f = (ns.take l).drop (f + s) ↔ (((bits ns s).drop f).take (l - s - f)).all id = true := by
  rw [eq_same (by rw [List.length_drop, List.length_drop, List.length_take, List.length_take, Nat.min_eq_left hl, Nat.min_eq_left (Nat.le_trans (Nat.sub_le _ _) hl), Nat.sub_sub, Nat.add_comm s f]), bits, ← same_drop, List.drop_drop, ← same_take, List.drop_take, List.drop_take, Nat.add_comm s f]
  have : l - (f + s) = l - s - f := by rw [Nat.add_comm, Nat.sub_sub]
  rw [this]
end
abbrev T2 := Nat × Nat
abbrev T3 := Nat × Nat × Nat
/-- a turn of the search -/
noncomputable def fStep (s : Nat) (bs : List Bool) (acc : List T3) (p : Nat) : List T3 :=
  if p - bwd bs p + s ≤ p + fwd bs p ∧ (s, p - bwd bs p, p + fwd bs p + s) ∉ acc then acc ++ [(s, p - bwd bs p, p + fwd bs p + s)] else acc
noncomputable def placesN (s : Nat) : Nat := 7 / s
noncomputable def fLoop (s : Nat) (bs : List Bool) (acc : List T3) (k : Nat) : List T3 := (List.range k).foldl (fun acc j => fStep s bs acc (j * s)) acc
/-- all stretches of one size -/
noncomputable def whIn (s : Nat) (bs : List Bool) (f l : Nat) : Bool := ((bs.drop f).take (l - s - f)).all id
noncomputable def whRow (s : Nat) (bs : List Bool) (f : Nat) (k : Nat) : List T2 := ((List.range k).map fun j => (f, f + 2 * s + j)).filter fun q => whIn s bs q.1 q.2
noncomputable def wh (s : Nat) (bs : List Bool) (k : Nat) : List T2 := (List.range k).flatMap fun f => whRow s bs f (9 - (f + 2 * s))
noncomputable def duOk (w : List T2) (q : T2) : Bool := !(decide (q.1 ≠ 0 ∧ (q.1 - 1, q.2) ∈ w)) && !(decide ((q.1, q.2 + 1) ∈ w))
noncomputable def du (s : Nat) (bs : List Bool) : List T3 := ((wh s bs 8).filter (duOk (wh s bs 8))).map fun q => (s, q.1, q.2)
theorem fStep_app {s : Nat} {bs : List Bool} {pre acc : List T3} {p : Nat} (h : ∀ t ∈ pre, t.1 ≠ s) : fStep s bs (pre ++ acc) p = pre ++ fStep s bs acc p := by
  unfold fStep
  have : ∀ t : T3, t.1 = s → (t ∈ pre ++ acc ↔ t ∈ acc) := fun t ht => by
    rw [List.mem_append]
    exact ⟨fun x => x.resolve_left fun y => h t y ht, .inr⟩
  by_cases hc : p - bwd bs p + s ≤ p + fwd bs p ∧ (s, p - bwd bs p, p + fwd bs p + s) ∉ acc
  · rw [if_pos hc, if_pos ⟨hc.1, fun x => hc.2 ((this _ rfl).mp x)⟩, List.append_assoc]
  · rw [if_neg hc, if_neg fun x => hc ⟨x.1, fun y => x.2 ((this _ rfl).mpr y)⟩]
theorem fold_app {s : Nat} {bs : List Bool} {pre : List T3} (h : ∀ t ∈ pre, t.1 ≠ s) : ∀ (l : List Nat) (acc : List T3), l.foldl (fun acc j => fStep s bs acc (j * s)) (pre ++ acc) = pre ++ l.foldl (fun acc j => fStep s bs acc (j * s)) acc
  | [], _ => rfl
  | j :: l, acc => by rw [List.foldl_cons, List.foldl_cons, fStep_app h, fold_app h l]
/-- all rows of so many bits -/
noncomputable def allB : Nat → List (List Bool)
  | 0 => [[]]
  | n + 1 => (allB n).flatMap fun b => [false :: b, true :: b]
theorem allB_mem : ∀ b : List Bool, b ∈ allB b.length
  | [] => by simp [allB]
  | x :: b => by
    rw [List.length_cons, allB, List.mem_flatMap]
    exact ⟨b, allB_mem b, by cases x <;> simp⟩
noncomputable def sizeOk (s : Nat) (bs : List Bool) : Bool := decide (fLoop s bs [] (placesN s) = du s bs)
theorem ok1 : (allB 7).all (sizeOk 1) = true := by decide +kernel
theorem ok2 : (allB 6).all (sizeOk 2) = true := by decide +kernel
theorem ok3 : (allB 5).all (sizeOk 3) = true := by decide +kernel
theorem ok4 : (allB 4).all (sizeOk 4) = true := by decide +kernel
theorem size_ok4 {s : Nat} {bs : List Bool} (hs : 1 ≤ s ∧ s ≤ 4) (hl : bs.length = 8 - s) : fLoop s bs [] (placesN s) = du s bs := by
  have hm := allB_mem bs
  have : s = 1 ∨ s = 2 ∨ s = 3 ∨ s = 4 := by omega
  rw [hl] at hm
  rcases this with rfl | rfl | rfl | rfl
  · exact of_decide_eq_true (List.all_eq_true.mp ok1 bs hm)
  · exact of_decide_eq_true (List.all_eq_true.mp ok2 bs hm)
  · exact of_decide_eq_true (List.all_eq_true.mp ok3 bs hm)
  · exact of_decide_eq_true (List.all_eq_true.mp ok4 bs hm)
section
variable {α : Type} [DecidableEq α]
noncomputable def foundN (ns : List α) : Nat → List T3
  | 0 => []
  | k + 1 => fLoop (k + 1) (bits ns (k + 1)) (foundN ns k) (placesN (k + 1))
noncomputable def dueN (ns : List α) : Nat → List T3
  | 0 => []
  | k + 1 => dueN ns k ++ du (k + 1) (bits ns (k + 1))
theorem due_heads (ns : List α) : ∀ k, ∀ t ∈ dueN ns k, t.1 ≤ k
  | 0, t, h => by simp [dueN] at h
  | k + 1, t, h => by
    rcases List.mem_append.mp h with h | h
    · have := due_heads ns k t h; omega
    · obtain ⟨q, _, rfl⟩ := List.mem_map.mp h
      exact Nat.le_refl _
theorem found_due {ns : List α} (hn : ns.length = 8) : ∀ k, k ≤ 4 → foundN ns k = dueN ns k
  | 0, _ => rfl
  | k + 1, h => by
    rw [foundN, dueN, found_due hn k (by omega), fLoop]
    have := fold_app (s := k + 1) (bs := bits ns (k + 1)) (pre := dueN ns k) (fun t ht => by have := due_heads ns k t ht; omega) (List.range (placesN (k + 1))) []
    rw [List.append_nil] at this
    rw [this]
    exact congrArg _ (size_ok4 ⟨by omega, by omega⟩ (by rw [bits_length, hn]))
end
end Mine
end
section
open PySem PySem.W PyProof.Rows PySem.Calls
namespace Mine
open PySem.Builtin
/-- a step of a split at slashes -/
noncomputable def splStep (p : List (Array UInt8) × List UInt8) (c : UInt8) : List (Array UInt8) × List UInt8 := if c = 47 then (p.1 ++ [p.2.toArray], []) else (p.1, p.2 ++ [c])
noncomputable def splFin (p : List (Array UInt8) × List UInt8) : List (Array UInt8) := p.1 ++ [p.2.toArray]
theorem one_at (b : Array UInt8) (i : Nat) (hi : i < b.size) : (b.extract i (i + (#[47] : Array UInt8).size) == #[47]) = (b[i] == 47) := by
  have : b.extract i (i + (#[47] : Array UInt8).size) = #[b[i]] := by
    apply Array.ext
    · simp; omega
    · intro j h1 h2
      have : j = 0 := by simpa using h2
      subst this
      simp
  rw [this, Bool.eq_iff_iff]
  simp
/-- the places of the slashes in the first n octets -/
noncomputable def slashes (b : Array UInt8) (n : Nat) : List Nat := (List.range n).filter fun i => b[i]? == some 47
theorem slashes_succ (b : Array UInt8) (n : Nat) : slashes b (n + 1) = slashes b n ++ (if b[n]? == some 47 then [n] else []) := by
  unfold slashes
  rw [List.range_succ, List.filter_append]
  congr 1
  rw [List.filter_cons]
  rfl
theorem occ_fold (b : Array UInt8) : ∀ n, n ≤ b.size → ∃ last, last ≤ n ∧ (List.range n).foldl (fun (acc : List Nat × Nat) (i : Nat) => if i ≥ acc.2 && b.extract i (i + (#[47] : Array UInt8).size) == #[47] then (i :: acc.1, i + (#[47] : Array UInt8).size) else acc) ([], 0) = ((slashes b n).reverse, last)
  | 0, _ => ⟨0, Nat.le_refl _, rfl⟩
  | n + 1, h => by
    obtain ⟨last, hl, e⟩ := occ_fold b n (by omega)
    rw [List.range_succ, List.foldl_append, e, List.foldl_cons, List.foldl_nil, one_at b n (by omega), slashes_succ]
    have hn : b[n]? = some b[n] := Array.getElem?_eq_getElem (by omega)
    rw [hn]
    by_cases hc : b[n] = 47
    · refine ⟨n + 1, Nat.le_refl _, ?_⟩
      simp [hc, hl]
    · refine ⟨last, by omega, ?_⟩
      simp [hc]
theorem occ_eq (b : Array UInt8) : Bytes.occurrences b #[47] 0 b.size = slashes b b.size := by
  unfold Bytes.occurrences
  obtain ⟨last, _, e⟩ := occ_fold b b.size (Nat.le_refl _)
  have h1 : b.size + 1 - (0 + (#[47] : Array UInt8).size) = b.size := by simp
  have h2 : (List.range b.size).map (· + 0) = List.range b.size := by simp
  dsimp only
  rw [h1, h2, e]
  simp
theorem slashes_len (b : Array UInt8) (n : Nat) : (slashes b n).length ≤ n := by
  unfold slashes
  exact Nat.le_trans (List.length_filter_le _ _) (by simp)
theorem places_eq (b : Array UInt8) : placesRaw b #[47] = slashes b b.size := by
  unfold placesRaw
  rw [occ_eq, List.take_of_length_le]
  have := slashes_len b b.size
  omega
theorem between_fold (b : Array UInt8) : ∀ n, n ≤ b.size → ∃ (ps : Array (Array UInt8)) (last : Nat), last ≤ n ∧ (slashes b n).foldl (fun (x : Array (Array UInt8) × Nat) p => (x.1.push (b.extract x.2 p), p + 1)) ((#[] : Array (Array UInt8)), 0) = (ps, last) ∧ (b.toList.take n).foldl splStep ([], []) = (ps.toList, (b.extract last n).toList)
  | 0, _ => ⟨#[], 0, Nat.le_refl _, rfl, by simp⟩
  | n + 1, h => by
    obtain ⟨ps, last, hl, e, f⟩ := between_fold b n (by omega)
    have hn : b[n]? = some b[n] := Array.getElem?_eq_getElem (by omega)
    have ht : b.toList.take (n + 1) = b.toList.take n ++ [b[n]] := by
      rw [List.take_add_one]
      simp [hn]
    rw [slashes_succ, List.foldl_append, e, ht, List.foldl_append, f, hn, List.foldl_cons, List.foldl_nil]
    by_cases hc : b[n] = 47
    · refine ⟨ps.push (b.extract last n), n + 1, Nat.le_refl _, ?_, ?_⟩
      · simp [hc]
      · unfold splStep
        rw [if_pos hc, Array.toList_push]
        show (ps.toList ++ [(b.extract last n).toList.toArray], []) = (ps.toList ++ [b.extract last n], (b.extract (n + 1) (n + 1)).toList)
        rw [Array.toArray_toList]
        simp
    · refine ⟨ps, last, by omega, ?_, ?_⟩
      · simp [hc]
      · unfold splStep
        rw [if_neg hc]
        have : b.extract last (n + 1) = b.extract last n ++ #[b[n]] := by
          apply Array.ext
          · simp; omega
          · intro j h1 h2
            simp at h1
            by_cases hj : last + j < n
            · rw [Array.getElem_append_left (by simp; omega)]
              simp
            · have : last + j = n := by omega
              rw [Array.getElem_append_right (by simp; omega)]
              simp [this]
        rw [this, Array.toList_append]
theorem split_eq (b : Array UInt8) : splitRaw b #[47] = splFin (b.toList.foldl splStep ([], [])) := by
  obtain ⟨ps, last, hl, e, f⟩ := between_fold b b.size (Nat.le_refl _)
  have ht : b.toList.take b.size = b.toList := List.take_of_length_le (by simp)
  rw [ht] at f
  have hb : Bytes.between b (#[47] : Array UInt8).size (slashes b b.size) = splFin (b.toList.foldl splStep ([], [])) := by
    unfold Bytes.between
    show (let (parts, last) := (slashes b b.size).foldl (fun (x : Array (Array UInt8) × Nat) p => (x.1.push (b.extract x.2 p), p + 1)) ((#[] : Array (Array UInt8)), 0); (parts.push (b.extract last b.size)).toList) = _
    rw [e, f]
    show (ps.push (b.extract last b.size)).toList = ps.toList ++ [(b.extract last b.size).toList.toArray]
    rw [Array.toArray_toList, Array.toList_push]
  unfold splitRaw
  rw [places_eq]
  split
  · rename_i hh
    rw [← hb]
    have : slashes b b.size = [] := by simpa using hh
    rw [this]
    simp [Bytes.between]
  · exact hb
/-- a good name: some octets, each a or b -/
noncomputable def Good (b : Array UInt8) : Prop := b ≠ #[] ∧ ∀ c ∈ b.toList, c = 97 ∨ c = 98
theorem Good.rev {b : Array UInt8} (h : Good b) : Good b.reverse := ⟨fun e => h.1 (by simpa using e), fun c hc => h.2 c (by simpa using hc)⟩
theorem Good.pos {b : Array UInt8} (h : Good b) : 0 < b.size := by
  rcases Nat.eq_zero_or_pos b.size with e | e
  · exact absurd (Array.eq_empty_of_size_eq_zero e) h.1
  · exact e
theorem Good.no {b : Array UInt8} (h : Good b) : ∀ c ∈ b.toList, c ≠ 47 := fun c hc => by
  rcases h.2 c hc with rfl | rfl <;> decide
theorem spl_no : ∀ (l : List UInt8) (a : List (Array UInt8)) (cur : List UInt8), (∀ c ∈ l, c ≠ 47) → l.foldl splStep (a, cur) = (a, cur ++ l)
  | [], a, cur, _ => by simp
  | c :: l, a, cur, h => by
    rw [List.foldl_cons]
    unfold splStep
    rw [if_neg (h c List.mem_cons_self)]
    have := spl_no l a (cur ++ [c]) fun x hx => h x (List.mem_cons_of_mem _ hx)
    unfold splStep at this
    rw [this]
    simp
theorem joined_list (sep : Array UInt8) : ∀ (bs : List (Array UInt8)) (b : Array UInt8), (bs.foldl (fun a x => (a ++ sep) ++ x) b).toList = b.toList ++ bs.flatMap fun x => sep.toList ++ x.toList
  | [], b => by simp
  | c :: bs, b => by
    rw [List.foldl_cons, joined_list sep bs]
    simp
theorem joined_toList (sep b : Array UInt8) (bs : List (Array UInt8)) : (Bytes.joined sep (b :: bs)).toList = b.toList ++ bs.flatMap fun x => sep.toList ++ x.toList := by
  rw [joined_cons, joined_list]
/-- the split of a row glued by a separator: pieces of the separator between -/
theorem spl_flat {sl : List UInt8} {mid : List (Array UInt8)} (hs : ∀ a cur, sl.foldl splStep (a, cur) = (a ++ cur.toArray :: mid, [])) :
    ∀ (bs : List (Array UInt8)) (a : List (Array UInt8)) (cur : List UInt8), (∀ x ∈ bs, ∀ c ∈ x.toList, c ≠ 47) →
      splFin ((bs.flatMap fun x => sl ++ x.toList).foldl splStep (a, cur)) = a ++ cur.toArray :: bs.flatMap fun x => mid ++ [x]
  | [], a, cur, _ => by simp [splFin]
  | x :: bs, a, cur, h => by
    rw [List.flatMap_cons, List.foldl_append, List.foldl_append, hs, spl_no _ _ _ (h x List.mem_cons_self), spl_flat hs bs _ _ fun y hy => h y (List.mem_cons_of_mem _ hy)]
    simp
theorem split_joined {sep : Array UInt8} {mid : List (Array UInt8)} (hs : ∀ a cur, sep.toList.foldl splStep (a, cur) = (a ++ cur.toArray :: mid, [])) {b : Array UInt8} {bs : List (Array UInt8)} (h : ∀ x ∈ b :: bs, ∀ c ∈ x.toList, c ≠ 47) :
    splitRaw (Bytes.joined sep (b :: bs)) #[47] = b :: bs.flatMap fun x => mid ++ [x] := by
  rw [split_eq, joined_toList, List.foldl_append, spl_no _ _ _ (h b List.mem_cons_self), spl_flat hs bs _ _ fun y hy => h y (List.mem_cons_of_mem _ hy)]
  simp
theorem step1 (a : List (Array UInt8)) (cur : List UInt8) : (#[47] : Array UInt8).toList.foldl splStep (a, cur) = (a ++ cur.toArray :: [], []) := by simp [splStep]
theorem step2 (a : List (Array UInt8)) (cur : List UInt8) : (#[47, 47] : Array UInt8).toList.foldl splStep (a, cur) = (a ++ cur.toArray :: [#[]], []) := by simp [splStep]
theorem step3 (a : List (Array UInt8)) (cur : List UInt8) : (#[47, 46, 47] : Array UInt8).toList.foldl splStep (a, cur) = (a ++ cur.toArray :: [#[46]], []) := by simp [splStep]
/-- names glued by a slash -/
noncomputable def J (xs : List (Array UInt8)) : Array UInt8 := Bytes.joined #[47] xs
theorem J_split {xs : List (Array UInt8)} (h : ∀ x ∈ xs, Good x) : splitRaw (J xs) #[47] = if xs = [] then [#[]] else xs := by
  cases xs with
  | nil => rw [if_pos rfl]; unfold J; rw [joined_nil, split_eq]; rfl
  | cons b bs =>
    rw [if_neg (by simp)]
    unfold J
    rw [split_joined step1 fun x hx => (h x hx).no]
    simp
theorem keep_good {x : Array UInt8} (h : Good x) : keepB x = true := by
  have h1 := h.pos
  unfold keepB
  simp only [Bool.and_eq_true, bne_iff_ne, ne_eq]
  refine ⟨by omega, fun e => ?_⟩
  have := h.2 46 (by rw [e]; simp)
  rcases this with h | h <;> exact absurd h (by decide)
theorem filter_mid {mid : List (Array UInt8)} (hm : ∀ x ∈ mid, keepB x = false) : ∀ {bs : List (Array UInt8)}, (∀ x ∈ bs, Good x) → (bs.flatMap fun x => mid ++ [x]).filter keepB = bs
  | [], _ => rfl
  | x :: bs, h => by
    rw [List.flatMap_cons, List.filter_append, List.filter_append, filter_mid hm fun y hy => h y (List.mem_cons_of_mem _ hy), List.filter_eq_nil_iff.mpr fun y hy => by simp [hm y hy]]
    simp [keep_good (h x List.mem_cons_self)]
theorem common_part {sep : Array UInt8} {mid : List (Array UInt8)} (hs : ∀ a cur, sep.toList.foldl splStep (a, cur) = (a ++ cur.toArray :: mid, [])) (hm : ∀ x ∈ mid, keepB x = false) {xs : List (Array UInt8)} (h : ∀ x ∈ xs, Good x) :
    (splitRaw (Bytes.joined sep (splitRaw (J xs) #[47])) #[47]).filter keepB = xs := by
  rw [J_split h]
  cases xs with
  | nil =>
    rw [if_pos rfl, split_joined hs (by simp)]
    rfl
  | cons b bs =>
    rw [if_neg (by simp), split_joined hs fun x hx => (h x hx).no, List.filter_cons, if_pos (keep_good (h b List.mem_cons_self)), filter_mid hm fun y hy => h y (List.mem_cons_of_mem _ hy)]
theorem commonJ {xs ys : List (Array UInt8)} (hx : ∀ x ∈ xs, Good x) (hy : ∀ x ∈ ys, Good x) :
    commonRaw (Bytes.joined #[47, 47] (splitRaw (J xs) #[47])) (Bytes.joined #[47, 46, 47] (splitRaw (J ys) #[47])) = lcp xs ys := by
  unfold commonRaw
  rw [common_part step2 (by decide) hx, common_part step3 (by decide) hy]
end Mine
end
section
open PySem PySem.W PyProof.Rows
namespace Mine
/-- a place in the program from which a def of its top is called -/
structure Place where
  /-- what the program's names mean: exceptions, globals, builtins -/
  means : ExcName → Option PySem.Value
  globals : Str → Option PySem.Value
  builtins : Str → Option PySem.Value
  /-- how deep the call stands, and how far its line has been worked off -/
  depth : Nat
  units : Nat
  guard : Option (List Code)
  /-- the caller: its name, scope, function, code, cells, and the frames around it -/
  name : Str
  scope : Scope
  fn : Addr
  code : PySem.Value
  cells : List (Str × Addr)
  outer : List Env
  root : Around
  ground : Heap
  /-- the heap when the caller's frame was made, the frame's address, what it binds -/
  first : Heap
  own : Addr
  vars : Str → Option PySem.Value
noncomputable abbrev Place.around (p : Place) : Around := ktrTop p.depth p.units p.guard p.name p.scope p.own p.fn p.code p.cells p.outer
/-- all stands well there for a call of depth D and weight U, but for the caller's own frame; K are the program's objects -/
structure Place.Firm (p : Place) (K : Frag) (D U : Nat) : Prop where
  below : Below p.root p.ground p.outer p.first
  objs : K.In p.first
  top : Top Mine.hd.view_1_2 (looseW Mine.hd.view_1_2 []) p.means p.globals p.builtins p.first
  kind : p.scope.kind = .function
  deep : p.depth + D < recursionLimit
  light : p.units + U < cLine
/-- and the caller's frame stands, with its ledger -/
structure Place.Sound (p : Place) (K : Frag) (news : List (Addr × Obj)) (s : Shared) (D U : Nat) : Prop where
  firm : p.Firm K D U
  frame : Fr p.first p.own s.heap p.vars
  made : News p.first p.own s.heap news
/-- the same place, k units of its line on -/
noncomputable abbrev Place.on (p : Place) (k : Nat) : Place := { p with units := p.units + k }
theorem Place.Firm.on {p : Place} {K : Frag} {D U k : Nat} (h : p.Firm K D (k + U)) : (p.on k).Firm K D U := { h with light := Nat.add_assoc p.units k U ▸ h.light }
theorem Place.Firm.less {p : Place} {K : Frag} {D U V : Nat} (h : p.Firm K D U) (le : V ≤ U) : p.Firm K D V := { h with light := Nat.lt_of_le_of_lt (Nat.add_le_add_left le _) h.light }
/-- a call's contract: from any place, for any ledger, it comes back with a value that R takes, the frame and the ledger as they were -/
noncomputable def Claim (D U : Nat) (f : Addr) (vs : List PySem.Value) (R : PySem.Value → Prop) : Prop :=
  ∀ (w : World) (p : Place) (news : List (Addr × Obj)) (s : Shared) (Q E : PySem.Value → Shared → Prop), p.Sound (Mine.lawK w.params) news s D U →
    (∀ v h tk, R v → Fr p.first p.own h p.vars → News p.first p.own h news → Q v { s with heap := h, toks := tk }) →
    wpAny (model PySem.Challenge.rw_pd0128_01.row.prog w) p.around (call (.ref f) vs) Q E s
/-- the contract of a call that makes a list -/
noncomputable def ClaimL (D U : Nat) (f : Addr) (vs : List PySem.Value) (R : List PySem.Value → Prop) : Prop :=
  ∀ (w : World) (p : Place) (news : List (Addr × Obj)) (s : Shared) (Q E : PySem.Value → Shared → Prop), p.Sound (Mine.lawK w.params) news s D U →
    (∀ l ws n h tk, R ws → Fr p.first p.own h p.vars → News p.first p.own h ((l, listOf ws.toArray n) :: news) → (∀ q ∈ news, q.1 < l) → Q (.ref l) { s with heap := h, toks := tk }) →
    wpAny (model PySem.Challenge.rw_pd0128_01.row.prog w) p.around (call (.ref f) vs) Q E s
end Mine
end
section
open PySem PySem.W PyProof.Rows
namespace Mine
local macro_rules | `(tactic| walk_at "call type:type") => `(tactic| (k_here; (with_reducible show wpAny _ _ (call (Value.type "type") [Value.bytes _ _]) _ _ _); (refine type_bytes ?_)))
local macro_rules | `(tactic| walk_at "call builtin:issubclass") => `(tactic| (k_here; (with_reducible show wpAny _ _ (call (Value.builtin "issubclass") [Value.type "bytes", Value.ref _]) _ _ _); k_dflt (refine' issub_N ?k1 ?k2 ?_; (case k1 => k_asm); (case k2 => k_mem))))
local macro_rules | `(tactic| walk_at "mine:news") => `(tactic| first | assumption | (refine cb_drop (by assumption) ?_; intro p hp; repeat (first | exact hp | refine List.mem_cons_of_mem _ ?_)))
set_option maxRecDepth 100000 in
set_option maxHeartbeats 4000000 in
theorem get_sep_ok (b : Array UInt8) (t : Tok) : Claim 1 8 108 [.bytes b t] (fun v => ∃ t', v = .bytes #[47] t') := by
  unfold Claim
  k_fill
  rintro w ⟨mean, mg, mb, dp, un, gd, cn, cs, a, ccd, cl, outer, A₀, base, h₀, L, m⟩ news s Q E ⟨⟨B, X, T, hk, hd, hu⟩, F, N⟩ hret
  dsimp only [Place.around] at *
  refine wpAny_call ?_
  k_dflt cell_enter
  k_steps
  all_goals (refine hret _ _ _ ⟨_, rfl⟩ ?_ ?_ <;> assumption)
set_option maxRecDepth 100000 in
set_option maxHeartbeats 4000000 in
theorem fspath_ok (b : Array UInt8) (t : Tok) : Claim 1 8 94 [.bytes b t] (fun v => v = .bytes b t) := by
  unfold Claim
  k_fill
  rintro w ⟨mean, mg, mb, dp, un, gd, cn, cs, a, ccd, cl, outer, A₀, base, h₀, L, m⟩ news s Q E ⟨⟨B, X, T, hk, hd, hu⟩, F, N⟩ hret
  dsimp only [Place.around] at *
  refine wpAny_call ?_
  k_dflt cell_enter
  k_steps
  all_goals (refine hret _ _ _ rfl ?f ?n; (case f => assumption); (case n => walk_at "mine:news"))
end Mine
end
section
open PySem PySem.W PyProof.Rows
namespace Mine
local macro_rules | `(tactic| walk_at $s:str) => do let t := Lean.Syntax.mkStrLit ("m:" ++ s.getString); `(tactic| k_extra $t)
local macro_rules | `(tactic| k_all) => `(tactic| k_extra "m:mine:k_all")
local macro_rules | `(tactic| k_ne) => `(tactic| k_extra "m:mine:k_ne")
local macro_rules | `(tactic| passes_own) => `(tactic| k_extra "m:mine:passes_own")
theorem rules_C2 : True := by
  k_with_none
  k_with "m:call type:type" => (k_here; (with_reducible show wpAny _ _ (call (Value.type "type") [Value.bytes _ _]) _ _ _); (refine type_bytes ?_))
  k_with "m:call builtin:issubclass" => (k_here; (show wpAny _ _ (call (Value.builtin "issubclass") [Value.type "bytes", Value.ref _]) _ _ _); k_dflt (refine' issub_N (by (k_asm)) (by (k_mem)) ?_))
  k_with "m:mine:news" => first | assumption | (refine cb_drop (by assumption) ?_; intro p hp; repeat (first | exact hp | refine List.mem_cons_of_mem _ ?_))
  k_with "m:mine:size" => first | omega | (simp only [Array.size_append, List.size_toArray, List.length_cons, List.length_nil] at *; omega)
  k_with "m:getMethod bytes" => (k_here; (with_reducible first | refine meth FB.slot_bytes_startswith FB.type_bytes_startswith ?_ | refine meth FB.slot_bytes_endswith FB.type_bytes_endswith ?_ | refine meth slot_rfind type_rfind ?_ | refine meth slot_rstrip type_rstrip ?_ | refine meth slot_split type_split ?_ | refine meth slot_join type_join ?_))
  k_with "m:call builtin:bytes.startswith" => (k_here; (show wpAny _ _ (call (Value.builtin "bytes.startswith") [Value.bytes _ _, Value.bytes _ _]) _ _ _); (refine call_starts ?_))
  k_with "m:call builtin:bytes.endswith" => (k_here; (show wpAny _ _ (call (Value.builtin "bytes.endswith") [Value.bytes _ _, Value.bytes _ _]) _ _ _); (refine call_ends ?_))
  k_with "m:call builtin:bytes.rfind" => (k_here; (show wpAny _ _ (call (Value.builtin "bytes.rfind") [Value.bytes _ _, Value.bytes _ _]) _ _ _); (refine call_rfind ?_))
  k_with "m:call builtin:bytes.rstrip" => (k_here; (show wpAny _ _ (call (Value.builtin "bytes.rstrip") [Value.bytes _ _, Value.bytes _ _]) _ _ _); (refine call_rstrip (by walk_at "mine:size") ?_); intro _ _)
  k_with "m:truthy bytes" => (k_here; (with_reducible show wpAny _ _ (truthy (Value.bytes _ _)) _ _ _); (refine truthy_bytes (by walk_at "mine:size") ?_))
  k_with "m:call builtin:len" => (k_here; (show wpAny _ _ (call (Value.builtin "len") [Value.bytes _ _]) _ _ _); (refine len_bytes (by walk_at "mine:size") ?_))
  k_with "m:subscriptTail" => (k_here; (with_reducible show wpAny _ _ (subscriptTail _ (Expr.Slice _ _ none _) (Value.bytes _ _) (Value.ref _)) _ _ _); (with_reducible rename Fr _ _ _ _ => F'); (with_reducible rename News _ _ _ _ => N'); (refine slice_B (s := ⟨_, _, _, _, _⟩) F' N' (by constructor) (by constructor) (by walk_at "mine:size") ?_); intro _ _ _ F' N' hsz')
  k_with "m:binaryOp Mult bytes int" => (k_here; (with_reducible show wpAny _ _ (binaryOp Operator.Mult (Value.bytes _ _) (Value.int _ _)) _ _ _); (refine mul_one (by omega) (by walk_at "mine:size") ?_); intro _ _)
  k_with "m:binaryOp Add bytes bytes" => (k_here; (with_reducible show wpAny _ _ (binaryOp Operator.Add (Value.bytes _ _) (Value.bytes _ _)) _ _ _); (refine KBy.add_bytes (by walk_at "mine:size") ?_); intro _ _)
  k_with "m:compareOp NotEq bytes bytes" => (k_here; (refine ne_bytes ?_))
  k_with "m:compareOp Eq bytes bytes" => (k_here; (refine eq_bytes ?_))
  k_with "m:exec Try" => (k_here; (refine Try_calm ?_))
  k_with "m:mine:passes_own" => exact fun _ _ h => (show False from h).elim
  k_with "m:inplaceOp Add" => (k_here; (with_reducible show wpAny _ _ (inplaceOp Operator.Add (Value.bytes _ _) (Value.bytes _ _)) _ _ _); (refine iadd_bytes (by walk_at "mine:size") ?_); intro _ _)
  k_with "m:call builtin:bytes.split" => (k_here; (show wpAny _ _ (call (Value.builtin "bytes.split") [Value.bytes _ _, Value.bytes _ _]) _ _ _); k_dflt (refine' call_split1 (by (k_asm)) (by (k_asm)) (by (walk_at "mine:size")) ?_); intro l' h' vs' k' hv' hn' F' N' l1'; (try dsimp only))
  k_with "m:call builtin:len" => (k_here; (show wpAny _ _ (call (Value.builtin "len") [Value.ref _]) _ _ _); k_dflt (refine' len_L (by (k_asm)) (by (k_mem)) (by (omega)) ?_); intro _ _)
  k_with "m:mine:at" => with_reducible (first | exact At.here | assumption | exact At.skip (by decide) (by walk_at "mine:at"))
  k_with "m:eval Name" => (k_here; (with_reducible fail_if_success show wpAny _ _ (eval _ (compEnvC _ _ _ _)) _ _ _); (with_reducible fail_if_success show wpAny _ _ (eval _ (compEnv _ _ _)) _ _ _); (with_reducible fail_if_success show wpAny _ _ (eval _ (envOfC _ _ _ _ _)) _ _ _); (with_reducible rename At _ _ _ => hAt'); k_dflt (refine' ld (by (k_asm)) (by (change At _ _ _; walk_at "mine:at")) ?_))
  k_with "m:loadName" => (k_here; (with_reducible fail_if_success show wpAny _ _ (loadName (envOfC _ _ _ _ _) _) _ _ _); (with_reducible rename At _ _ _ => hAt'); k_dflt (refine' ldn (by (k_asm)) (by (change At _ _ _; walk_at "mine:at")) ?_))
  k_with "m:subscriptTail" => (k_here; (with_reducible show wpAny _ _ (subscriptTail _ _ (Value.ref _) (Value.int (-1) _)) _ _ _); k_dflt (refine' item_last (by (k_asm)) (by (k_mem)) ?_))
  k_with "m:call ref" => (k_here; (with_reducible show wpAny _ _ (call (Value.ref 94) [Value.bytes _ _]) _ _ _); k_dflt (refine' Claim.use (fspath_ok _ _) (by (k_asm)) (by (k_asm)) (by (k_asm)) (by (k_asm)) (by (k_asm)) (by (first | exact rfl | assumption)) (by (ktr_room)) (by (ktr_units)) ?_); intro v h' tk' hv F' N'; subst hv; (try dsimp only); (try k_fold))
  k_with "m:call ref" => (k_here; (with_reducible show wpAny _ _ (call (Value.ref 108) [Value.bytes _ _]) _ _ _); k_dflt (refine' Claim.use (get_sep_ok _ _) (by (k_asm)) (by (k_asm)) (by (k_asm)) (by (k_asm)) (by (k_asm)) (by (first | exact rfl | assumption)) (by (ktr_room)) (by (ktr_units)) ?_); intro v h' tk' hv F' N'; (obtain ⟨t9, hv⟩ := hv); subst hv; (try dsimp only); (try k_fold))
  trivial
theorem Claim.use {D U : Nat} {f : Addr} {vs : List PySem.Value} {R : PySem.Value → Prop} (C : Claim D U f vs R) {w : World} {mean : ExcName → Option PySem.Value} {mg mb : Str → Option PySem.Value} {news : List (Addr × Obj)} {dp un : Nat} {gd : Option (List Code)} {cn : Str} {cs : Scope} {a : Addr} {ccd : PySem.Value} {cl : List (Str × Addr)} {outer : List Env} {A₀ : Around} {base h₀ : Heap} {L : Addr} {m : Str → Option PySem.Value} {s : Shared} {Q E : PySem.Value → Shared → Prop}
    (B : Below A₀ base outer h₀) (F : Fr h₀ L s.heap m) (X : (Mine.lawK w.params).In h₀) (N : News h₀ L s.heap news) (T : Top Mine.hd.view_1_2 (looseW Mine.hd.view_1_2 []) mean mg mb h₀) (hk : cs.kind = .function)
    (hd : dp + D < recursionLimit) (hu : un + U < cLine)
    (h : ∀ (v : PySem.Value) (h' : Heap) (tk' : Nat), R v → Fr h₀ L h' m → News h₀ L h' news → Q v { s with heap := h', toks := tk' }) :
    wpAny (model PySem.Challenge.rw_pd0128_01.row.prog w) (ktrTop dp un gd cn cs L a ccd cl outer) (call (.ref f) vs) Q E s :=
  C w ⟨mean, mg, mb, dp, un, gd, cn, cs, a, ccd, cl, outer, A₀, base, h₀, L, m⟩ news s Q E ⟨⟨B, X, T, hk, hd, hu⟩, F, N⟩ h
/-- what dirname gives -/
noncomputable def dirRaw (b : Array UInt8) : Array UInt8 :=
  if (((KBy.picked b none (some (rfindRaw b #[47] + 1))).size : Int)) = 0 then KBy.picked b none (some (rfindRaw b #[47] + 1))
  else if ((KBy.picked b none (some (rfindRaw b #[47] + 1))).toList != (List.replicate (((KBy.picked b none (some (rfindRaw b #[47] + 1))).size : Int)).toNat 47).toArray.toList) = true then (rstripRaw (KBy.picked b none (some (rfindRaw b #[47] + 1))) #[47]).toArray
  else KBy.picked b none (some (rfindRaw b #[47] + 1))
set_option maxRecDepth 100000 in
set_option maxHeartbeats 4000000 in
theorem dirname_ok (b : Array UInt8) (t : Tok) (hb : b.size ≤ 1000) : Claim 3 24 122 [.bytes b t] (fun v => ∃ t', v = .bytes (dirRaw b) t') := by
  unfold Claim
  k_fill
  rintro w ⟨mean, mg, mb, dp, un, gd, cn, cs, a, ccd, cl, outer, A₀, base, h₀, L, m⟩ news s Q E ⟨⟨B, X, T, hk, hd, hu⟩, F, N⟩ hret
  dsimp only [Place.around] at *
  refine wpAny_call ?_
  k_dflt cell_enter
  k_steps
  all_goals (refine hret _ _ _ ⟨_, congrArg (PySem.Value.bytes · _) ?e⟩ ?f ?n; (case f => assumption); (case n => walk_at "mine:news"); (case e => unfold dirRaw; first
    | rw [if_pos (by assumption)]
    | rw [if_neg (by assumption), if_pos (by assumption)]
    | rw [if_neg (by assumption), if_neg (ne_true_of_eq_false (by assumption))]))
theorem rules_C3 : True := by
  k_with_none
  k_with "m:call type:type" => (k_here; (with_reducible show wpAny _ _ (call (Value.type "type") [Value.bytes _ _]) _ _ _); (refine type_bytes ?_))
  k_with "m:call builtin:issubclass" => (k_here; (show wpAny _ _ (call (Value.builtin "issubclass") [Value.type "bytes", Value.ref _]) _ _ _); k_dflt (refine' issub_N (by (k_asm)) (by (k_mem)) ?_))
  k_with "m:mine:news" => first | assumption | (refine cb_drop (by assumption) ?_; intro p hp; repeat (first | exact hp | refine List.mem_cons_of_mem _ ?_))
  k_with "m:mine:size" => first | omega | (simp only [Array.size_append, List.size_toArray, List.length_cons, List.length_nil] at *; omega)
  k_with "m:getMethod bytes" => (k_here; (with_reducible first | refine meth FB.slot_bytes_startswith FB.type_bytes_startswith ?_ | refine meth FB.slot_bytes_endswith FB.type_bytes_endswith ?_ | refine meth slot_rfind type_rfind ?_ | refine meth slot_rstrip type_rstrip ?_ | refine meth slot_split type_split ?_ | refine meth slot_join type_join ?_))
  k_with "m:call builtin:bytes.startswith" => (k_here; (show wpAny _ _ (call (Value.builtin "bytes.startswith") [Value.bytes _ _, Value.bytes _ _]) _ _ _); (refine call_starts ?_))
  k_with "m:call builtin:bytes.endswith" => (k_here; (show wpAny _ _ (call (Value.builtin "bytes.endswith") [Value.bytes _ _, Value.bytes _ _]) _ _ _); (refine call_ends ?_))
  k_with "m:call builtin:bytes.rfind" => (k_here; (show wpAny _ _ (call (Value.builtin "bytes.rfind") [Value.bytes _ _, Value.bytes _ _]) _ _ _); (refine call_rfind ?_))
  k_with "m:call builtin:bytes.rstrip" => (k_here; (show wpAny _ _ (call (Value.builtin "bytes.rstrip") [Value.bytes _ _, Value.bytes _ _]) _ _ _); (refine call_rstrip (by walk_at "mine:size") ?_); intro _ _)
  k_with "m:truthy bytes" => (k_here; (with_reducible show wpAny _ _ (truthy (Value.bytes _ _)) _ _ _); (refine truthy_bytes (by walk_at "mine:size") ?_))
  k_with "m:call builtin:len" => (k_here; (show wpAny _ _ (call (Value.builtin "len") [Value.bytes _ _]) _ _ _); (refine len_bytes (by walk_at "mine:size") ?_))
  k_with "m:subscriptTail" => (k_here; (with_reducible show wpAny _ _ (subscriptTail _ (Expr.Slice _ _ none _) (Value.bytes _ _) (Value.ref _)) _ _ _); (with_reducible rename Fr _ _ _ _ => F'); (with_reducible rename News _ _ _ _ => N'); (refine slice_B (s := ⟨_, _, _, _, _⟩) F' N' (by constructor) (by constructor) (by walk_at "mine:size") ?_); intro _ _ _ F' N' hsz')
  k_with "m:binaryOp Mult bytes int" => (k_here; (with_reducible show wpAny _ _ (binaryOp Operator.Mult (Value.bytes _ _) (Value.int _ _)) _ _ _); (refine mul_one (by omega) (by walk_at "mine:size") ?_); intro _ _)
  k_with "m:binaryOp Add bytes bytes" => (k_here; (with_reducible show wpAny _ _ (binaryOp Operator.Add (Value.bytes _ _) (Value.bytes _ _)) _ _ _); (refine KBy.add_bytes (by walk_at "mine:size") ?_); intro _ _)
  k_with "m:compareOp NotEq bytes bytes" => (k_here; (refine ne_bytes ?_))
  k_with "m:compareOp Eq bytes bytes" => (k_here; (refine eq_bytes ?_))
  k_with "m:exec Try" => (k_here; (refine Try_calm ?_))
  k_with "m:mine:passes_own" => exact fun _ _ h => (show False from h).elim
  k_with "m:inplaceOp Add" => (k_here; (with_reducible show wpAny _ _ (inplaceOp Operator.Add (Value.bytes _ _) (Value.bytes _ _)) _ _ _); (refine iadd_bytes (by walk_at "mine:size") ?_); intro _ _)
  k_with "m:call builtin:bytes.split" => (k_here; (show wpAny _ _ (call (Value.builtin "bytes.split") [Value.bytes _ _, Value.bytes _ _]) _ _ _); k_dflt (refine' call_split1 (by (k_asm)) (by (k_asm)) (by (walk_at "mine:size")) ?_); intro l' h' vs' k' hv' hn' F' N' l1'; (try dsimp only))
  k_with "m:call builtin:len" => (k_here; (show wpAny _ _ (call (Value.builtin "len") [Value.ref _]) _ _ _); k_dflt (refine' len_L (by (k_asm)) (by (k_mem)) (by (omega)) ?_); intro _ _)
  k_with "m:mine:at" => with_reducible (first | exact At.here | assumption | exact At.skip (by decide) (by walk_at "mine:at"))
  k_with "m:eval Name" => (k_here; (with_reducible fail_if_success show wpAny _ _ (eval _ (compEnvC _ _ _ _)) _ _ _); (with_reducible fail_if_success show wpAny _ _ (eval _ (compEnv _ _ _)) _ _ _); (with_reducible fail_if_success show wpAny _ _ (eval _ (envOfC _ _ _ _ _)) _ _ _); (with_reducible rename At _ _ _ => hAt'); k_dflt (refine' ld (by (k_asm)) (by (change At _ _ _; walk_at "mine:at")) ?_))
  k_with "m:loadName" => (k_here; (with_reducible fail_if_success show wpAny _ _ (loadName (envOfC _ _ _ _ _) _) _ _ _); (with_reducible rename At _ _ _ => hAt'); k_dflt (refine' ldn (by (k_asm)) (by (change At _ _ _; walk_at "mine:at")) ?_))
  k_with "m:subscriptTail" => (k_here; (with_reducible show wpAny _ _ (subscriptTail _ _ (Value.ref _) (Value.int (-1) _)) _ _ _); k_dflt (refine' item_last (by (k_asm)) (by (k_mem)) ?_))
  k_with "m:call ref" => (k_here; (with_reducible show wpAny _ _ (call (Value.ref 94) [Value.bytes _ _]) _ _ _); k_dflt (refine' Claim.use (fspath_ok _ _) (by (k_asm)) (by (k_asm)) (by (k_asm)) (by (k_asm)) (by (k_asm)) (by (first | exact rfl | assumption)) (by (ktr_room)) (by (ktr_units)) ?_); intro v h' tk' hv F' N'; subst hv; (try dsimp only); (try k_fold))
  k_with "m:call ref" => (k_here; (with_reducible show wpAny _ _ (call (Value.ref 108) [Value.bytes _ _]) _ _ _); k_dflt (refine' Claim.use (get_sep_ok _ _) (by (k_asm)) (by (k_asm)) (by (k_asm)) (by (k_asm)) (by (k_asm)) (by (first | exact rfl | assumption)) (by (ktr_room)) (by (ktr_units)) ?_); intro v h' tk' hv F' N'; (obtain ⟨t9, hv⟩ := hv); subst hv; (try dsimp only); (try k_fold))
  k_with "m:call ref" => (k_here; (with_reducible show wpAny _ _ (call (Value.ref 122) [Value.bytes _ _]) _ _ _); k_dflt (refine' Claim.use (dirname_ok _ _ (by (walk_at "mine:size"))) (by (k_asm)) (by (k_asm)) (by (k_asm)) (by (k_asm)) (by (k_asm)) (by (first | exact rfl | assumption)) (by (ktr_room)) (by (ktr_units)) ?_); intro v h' tk' hv F' N'; (obtain ⟨t9, hv⟩ := hv); subst hv; (try dsimp only); (try k_fold))
  trivial
/-- what join gives -/
noncomputable def joinRaw (b c : Array UInt8) : Array UInt8 :=
  if startsRaw c #[47] = true then c else if (b.size : Int) = 0 then c else if endsRaw b #[47] = true then b ++ c else b ++ (#[47] ++ c)
set_option maxRecDepth 100000 in
set_option maxHeartbeats 4000000 in
theorem join_ok (b c : Array UInt8) (t u : Tok) (hb : b.size ≤ 1000) (hc : c.size ≤ 1000) : Claim 3 24 115 [.bytes b t, .bytes c u] (fun v => ∃ t', v = .bytes (joinRaw b c) t') := by
  unfold Claim
  k_fill
  rintro w ⟨mean, mg, mb, dp, un, gd, cn, cs, a, ccd, cl, outer, A₀, base, h₀, L, m⟩ news s Q E ⟨⟨B, X, T, hk, hd, hu⟩, F, N⟩ hret
  dsimp only [Place.around] at *
  refine wpAny_call ?_
  -- the def takes a rest: what is behind its one place stands in a tuple D'
  k_dflt (refine kp_rest B F X N T rfl rfl hk (by k_is) (by k_is) (by ktr_room) (by kl_lit) rfl (fun _ => rfl) (fun _ => locs rfl) ?_ rfl rfl rfl (by decide))
  k_whole
  intro D' g' L' h' l1 FG' F' N' B' X' T'
  try k_lt l1
  try dsimp only
  try k_lift B'
  try k_fold
  k_steps
  (with_reducible rename Fr _ _ _ _ => F₁)
  (with_reducible rename News _ _ _ _ => N₁)
  refine wpP.any (For_tup1 every_kept rfl F₁ N₁ List.mem_cons_self ?hx ?turn)
  case hx => k_dflt (refine ld F₁ rfl ⟨rfl, rfl⟩)
  intro h₁ tk₁ I oI off F₂ N₂
  clear F₁ N₁
  refine wpAny_assign_Name ?_
  k_steps
  refine wpP.of_any ?_
  k_steps
  all_goals (dsimp only; refine UnrEnd.intro (by assumption) (by assumption) ((D', tupObj [.bytes c u] 0) :: news) (fun p hp => hp) off ⟨List.mem_cons_self, ?_⟩; intro h8 tk8 F8 N8; k_steps)
  all_goals (refine hret _ _ _ ⟨_, congrArg (PySem.Value.bytes · _) ?e⟩ ?f ?n; (case f => assumption); (case n => walk_at "mine:news"); (case e => unfold joinRaw; first
    | rw [if_pos (by assumption)]
    | rw [if_neg (ne_true_of_eq_false (by assumption)), if_pos (by assumption)]
    | rw [if_neg (ne_true_of_eq_false (by assumption)), if_neg (by assumption), if_pos (by assumption)]
    | rw [if_neg (ne_true_of_eq_false (by assumption)), if_neg (by assumption), if_neg (ne_true_of_eq_false (by assumption))]))
theorem rules_C4 : True := by
  k_with_none
  k_with "m:call type:type" => (k_here; (with_reducible show wpAny _ _ (call (Value.type "type") [Value.bytes _ _]) _ _ _); (refine type_bytes ?_))
  k_with "m:call builtin:issubclass" => (k_here; (show wpAny _ _ (call (Value.builtin "issubclass") [Value.type "bytes", Value.ref _]) _ _ _); k_dflt (refine' issub_N (by (k_asm)) (by (k_mem)) ?_))
  k_with "m:mine:news" => first | assumption | (refine cb_drop (by assumption) ?_; intro p hp; repeat (first | exact hp | refine List.mem_cons_of_mem _ ?_))
  k_with "m:mine:size" => first | omega | (simp only [Array.size_append, List.size_toArray, List.length_cons, List.length_nil] at *; omega)
  k_with "m:getMethod bytes" => (k_here; (with_reducible first | refine meth FB.slot_bytes_startswith FB.type_bytes_startswith ?_ | refine meth FB.slot_bytes_endswith FB.type_bytes_endswith ?_ | refine meth slot_rfind type_rfind ?_ | refine meth slot_rstrip type_rstrip ?_ | refine meth slot_split type_split ?_ | refine meth slot_join type_join ?_))
  k_with "m:call builtin:bytes.startswith" => (k_here; (show wpAny _ _ (call (Value.builtin "bytes.startswith") [Value.bytes _ _, Value.bytes _ _]) _ _ _); (refine call_starts ?_))
  k_with "m:call builtin:bytes.endswith" => (k_here; (show wpAny _ _ (call (Value.builtin "bytes.endswith") [Value.bytes _ _, Value.bytes _ _]) _ _ _); (refine call_ends ?_))
  k_with "m:call builtin:bytes.rfind" => (k_here; (show wpAny _ _ (call (Value.builtin "bytes.rfind") [Value.bytes _ _, Value.bytes _ _]) _ _ _); (refine call_rfind ?_))
  k_with "m:call builtin:bytes.rstrip" => (k_here; (show wpAny _ _ (call (Value.builtin "bytes.rstrip") [Value.bytes _ _, Value.bytes _ _]) _ _ _); (refine call_rstrip (by walk_at "mine:size") ?_); intro _ _)
  k_with "m:truthy bytes" => (k_here; (with_reducible show wpAny _ _ (truthy (Value.bytes _ _)) _ _ _); (refine truthy_bytes (by walk_at "mine:size") ?_))
  k_with "m:call builtin:len" => (k_here; (show wpAny _ _ (call (Value.builtin "len") [Value.bytes _ _]) _ _ _); (refine len_bytes (by walk_at "mine:size") ?_))
  k_with "m:subscriptTail" => (k_here; (with_reducible show wpAny _ _ (subscriptTail _ (Expr.Slice _ _ none _) (Value.bytes _ _) (Value.ref _)) _ _ _); (with_reducible rename Fr _ _ _ _ => F'); (with_reducible rename News _ _ _ _ => N'); (refine slice_B (s := ⟨_, _, _, _, _⟩) F' N' (by constructor) (by constructor) (by walk_at "mine:size") ?_); intro _ _ _ F' N' hsz')
  k_with "m:binaryOp Mult bytes int" => (k_here; (with_reducible show wpAny _ _ (binaryOp Operator.Mult (Value.bytes _ _) (Value.int _ _)) _ _ _); (refine mul_one (by omega) (by walk_at "mine:size") ?_); intro _ _)
  k_with "m:binaryOp Add bytes bytes" => (k_here; (with_reducible show wpAny _ _ (binaryOp Operator.Add (Value.bytes _ _) (Value.bytes _ _)) _ _ _); (refine KBy.add_bytes (by walk_at "mine:size") ?_); intro _ _)
  k_with "m:compareOp NotEq bytes bytes" => (k_here; (refine ne_bytes ?_))
  k_with "m:compareOp Eq bytes bytes" => (k_here; (refine eq_bytes ?_))
  k_with "m:exec Try" => (k_here; (refine Try_calm ?_))
  k_with "m:mine:passes_own" => exact fun _ _ h => (show False from h).elim
  k_with "m:inplaceOp Add" => (k_here; (with_reducible show wpAny _ _ (inplaceOp Operator.Add (Value.bytes _ _) (Value.bytes _ _)) _ _ _); (refine iadd_bytes (by walk_at "mine:size") ?_); intro _ _)
  k_with "m:call builtin:bytes.split" => (k_here; (show wpAny _ _ (call (Value.builtin "bytes.split") [Value.bytes _ _, Value.bytes _ _]) _ _ _); k_dflt (refine' call_split1 (by (k_asm)) (by (k_asm)) (by (walk_at "mine:size")) ?_); intro l' h' vs' k' hv' hn' F' N' l1'; (try dsimp only))
  k_with "m:call builtin:len" => (k_here; (show wpAny _ _ (call (Value.builtin "len") [Value.ref _]) _ _ _); k_dflt (refine' len_L (by (k_asm)) (by (k_mem)) (by (omega)) ?_); intro _ _)
  k_with "m:mine:at" => with_reducible (first | exact At.here | assumption | exact At.skip (by decide) (by walk_at "mine:at"))
  k_with "m:eval Name" => (k_here; (with_reducible fail_if_success show wpAny _ _ (eval _ (compEnvC _ _ _ _)) _ _ _); (with_reducible fail_if_success show wpAny _ _ (eval _ (compEnv _ _ _)) _ _ _); (with_reducible fail_if_success show wpAny _ _ (eval _ (envOfC _ _ _ _ _)) _ _ _); (with_reducible rename At _ _ _ => hAt'); k_dflt (refine' ld (by (k_asm)) (by (change At _ _ _; walk_at "mine:at")) ?_))
  k_with "m:loadName" => (k_here; (with_reducible fail_if_success show wpAny _ _ (loadName (envOfC _ _ _ _ _) _) _ _ _); (with_reducible rename At _ _ _ => hAt'); k_dflt (refine' ldn (by (k_asm)) (by (change At _ _ _; walk_at "mine:at")) ?_))
  k_with "m:subscriptTail" => (k_here; (with_reducible show wpAny _ _ (subscriptTail _ _ (Value.ref _) (Value.int (-1) _)) _ _ _); k_dflt (refine' item_last (by (k_asm)) (by (k_mem)) ?_))
  k_with "m:call ref" => (k_here; (with_reducible show wpAny _ _ (call (Value.ref 94) [Value.bytes _ _]) _ _ _); k_dflt (refine' Claim.use (fspath_ok _ _) (by (k_asm)) (by (k_asm)) (by (k_asm)) (by (k_asm)) (by (k_asm)) (by (first | exact rfl | assumption)) (by (ktr_room)) (by (ktr_units)) ?_); intro v h' tk' hv F' N'; subst hv; (try dsimp only); (try k_fold))
  k_with "m:call ref" => (k_here; (with_reducible show wpAny _ _ (call (Value.ref 108) [Value.bytes _ _]) _ _ _); k_dflt (refine' Claim.use (get_sep_ok _ _) (by (k_asm)) (by (k_asm)) (by (k_asm)) (by (k_asm)) (by (k_asm)) (by (first | exact rfl | assumption)) (by (ktr_room)) (by (ktr_units)) ?_); intro v h' tk' hv F' N'; (obtain ⟨t9, hv⟩ := hv); subst hv; (try dsimp only); (try k_fold))
  k_with "m:call ref" => (k_here; (with_reducible show wpAny _ _ (call (Value.ref 122) [Value.bytes _ _]) _ _ _); k_dflt (refine' Claim.use (dirname_ok _ _ (by (walk_at "mine:size"))) (by (k_asm)) (by (k_asm)) (by (k_asm)) (by (k_asm)) (by (k_asm)) (by (first | exact rfl | assumption)) (by (ktr_room)) (by (ktr_units)) ?_); intro v h' tk' hv F' N'; (obtain ⟨t9, hv⟩ := hv); subst hv; (try dsimp only); (try k_fold))
  trivial
set_option maxRecDepth 100000 in
set_option maxHeartbeats 4000000 in
theorem size_ok (b : Array UInt8) (t : Tok) (hb : b.size ≤ 1000) : Claim 1 8 162 [.bytes b t] (fun v => ∃ t', v = .int (if b.size = 0 then 0 else ((splitRaw b #[47]).length : Int)) t') := by
  unfold Claim
  k_fill
  rintro w ⟨mean, mg, mb, dp, un, gd, cn, cs, a, ccd, cl, outer, A₀, base, h₀, L, m⟩ news s Q E ⟨⟨B, X, T, hk, hd, hu⟩, F, N⟩ hret
  dsimp only [Place.around] at *
  refine wpAny_call ?_
  k_dflt cell_enter
  k_steps
  all_goals (refine hret _ _ _ ⟨_, congrArg (PySem.Value.int · _) ?e⟩ ?f ?n; (case f => assumption); (case n => walk_at "mine:news"); (case e => first
    | (rw [if_pos (by omega)])
    | (rw [if_neg (by omega), BytesAre.length (by assumption)])))
theorem rules_C5 : True := by
  k_with_none
  k_with "m:call type:type" => (k_here; (with_reducible show wpAny _ _ (call (Value.type "type") [Value.bytes _ _]) _ _ _); (refine type_bytes ?_))
  k_with "m:call builtin:issubclass" => (k_here; (show wpAny _ _ (call (Value.builtin "issubclass") [Value.type "bytes", Value.ref _]) _ _ _); k_dflt (refine' issub_N (by (k_asm)) (by (k_mem)) ?_))
  k_with "m:mine:news" => first | assumption | (refine cb_drop (by assumption) ?_; intro p hp; repeat (first | exact hp | refine List.mem_cons_of_mem _ ?_))
  k_with "m:mine:size" => first | omega | (simp only [Array.size_append, List.size_toArray, List.length_cons, List.length_nil] at *; omega)
  k_with "m:getMethod bytes" => (k_here; (with_reducible first | refine meth FB.slot_bytes_startswith FB.type_bytes_startswith ?_ | refine meth FB.slot_bytes_endswith FB.type_bytes_endswith ?_ | refine meth slot_rfind type_rfind ?_ | refine meth slot_rstrip type_rstrip ?_ | refine meth slot_split type_split ?_ | refine meth slot_join type_join ?_))
  k_with "m:call builtin:bytes.startswith" => (k_here; (show wpAny _ _ (call (Value.builtin "bytes.startswith") [Value.bytes _ _, Value.bytes _ _]) _ _ _); (refine call_starts ?_))
  k_with "m:call builtin:bytes.endswith" => (k_here; (show wpAny _ _ (call (Value.builtin "bytes.endswith") [Value.bytes _ _, Value.bytes _ _]) _ _ _); (refine call_ends ?_))
  k_with "m:call builtin:bytes.rfind" => (k_here; (show wpAny _ _ (call (Value.builtin "bytes.rfind") [Value.bytes _ _, Value.bytes _ _]) _ _ _); (refine call_rfind ?_))
  k_with "m:call builtin:bytes.rstrip" => (k_here; (show wpAny _ _ (call (Value.builtin "bytes.rstrip") [Value.bytes _ _, Value.bytes _ _]) _ _ _); (refine call_rstrip (by walk_at "mine:size") ?_); intro _ _)
  k_with "m:truthy bytes" => (k_here; (with_reducible show wpAny _ _ (truthy (Value.bytes _ _)) _ _ _); (refine truthy_bytes (by walk_at "mine:size") ?_))
  k_with "m:call builtin:len" => (k_here; (show wpAny _ _ (call (Value.builtin "len") [Value.bytes _ _]) _ _ _); (refine len_bytes (by walk_at "mine:size") ?_))
  k_with "m:subscriptTail" => (k_here; (with_reducible show wpAny _ _ (subscriptTail _ (Expr.Slice _ _ none _) (Value.bytes _ _) (Value.ref _)) _ _ _); (with_reducible rename Fr _ _ _ _ => F'); (with_reducible rename News _ _ _ _ => N'); (refine slice_B (s := ⟨_, _, _, _, _⟩) F' N' (by constructor) (by constructor) (by walk_at "mine:size") ?_); intro _ _ _ F' N' hsz')
  k_with "m:binaryOp Mult bytes int" => (k_here; (with_reducible show wpAny _ _ (binaryOp Operator.Mult (Value.bytes _ _) (Value.int _ _)) _ _ _); (refine mul_one (by omega) (by walk_at "mine:size") ?_); intro _ _)
  k_with "m:binaryOp Add bytes bytes" => (k_here; (with_reducible show wpAny _ _ (binaryOp Operator.Add (Value.bytes _ _) (Value.bytes _ _)) _ _ _); (refine KBy.add_bytes (by walk_at "mine:size") ?_); intro _ _)
  k_with "m:compareOp NotEq bytes bytes" => (k_here; (refine ne_bytes ?_))
  k_with "m:compareOp Eq bytes bytes" => (k_here; (refine eq_bytes ?_))
  k_with "m:exec Try" => (k_here; (refine Try_calm ?_))
  k_with "m:mine:passes_own" => exact fun _ _ h => (show False from h).elim
  k_with "m:inplaceOp Add" => (k_here; (with_reducible show wpAny _ _ (inplaceOp Operator.Add (Value.bytes _ _) (Value.bytes _ _)) _ _ _); (refine iadd_bytes (by walk_at "mine:size") ?_); intro _ _)
  k_with "m:call builtin:bytes.split" => (k_here; (show wpAny _ _ (call (Value.builtin "bytes.split") [Value.bytes _ _, Value.bytes _ _]) _ _ _); k_dflt (refine' call_split1 (by (k_asm)) (by (k_asm)) (by (walk_at "mine:size")) ?_); intro l' h' vs' k' hv' hn' F' N' l1'; (try dsimp only))
  k_with "m:call builtin:len" => (k_here; (show wpAny _ _ (call (Value.builtin "len") [Value.ref _]) _ _ _); k_dflt (refine' len_L (by (k_asm)) (by (k_mem)) (by (omega)) ?_); intro _ _)
  k_with "m:mine:at" => with_reducible (first | exact At.here | assumption | exact At.skip (by decide) (by walk_at "mine:at"))
  k_with "m:eval Name" => (k_here; (with_reducible fail_if_success show wpAny _ _ (eval _ (compEnvC _ _ _ _)) _ _ _); (with_reducible fail_if_success show wpAny _ _ (eval _ (compEnv _ _ _)) _ _ _); (with_reducible fail_if_success show wpAny _ _ (eval _ (envOfC _ _ _ _ _)) _ _ _); (with_reducible rename At _ _ _ => hAt'); k_dflt (refine' ld (by (k_asm)) (by (change At _ _ _; walk_at "mine:at")) ?_))
  k_with "m:loadName" => (k_here; (with_reducible fail_if_success show wpAny _ _ (loadName (envOfC _ _ _ _ _) _) _ _ _); (with_reducible rename At _ _ _ => hAt'); k_dflt (refine' ldn (by (k_asm)) (by (change At _ _ _; walk_at "mine:at")) ?_))
  k_with "m:subscriptTail" => (k_here; (with_reducible show wpAny _ _ (subscriptTail _ _ (Value.ref _) (Value.int (-1) _)) _ _ _); k_dflt (refine' item_last (by (k_asm)) (by (k_mem)) ?_))
  k_with "m:call ref" => (k_here; (with_reducible show wpAny _ _ (call (Value.ref 94) [Value.bytes _ _]) _ _ _); k_dflt (refine' Claim.use (fspath_ok _ _) (by (k_asm)) (by (k_asm)) (by (k_asm)) (by (k_asm)) (by (k_asm)) (by (first | exact rfl | assumption)) (by (ktr_room)) (by (ktr_units)) ?_); intro v h' tk' hv F' N'; subst hv; (try dsimp only); (try k_fold))
  k_with "m:call ref" => (k_here; (with_reducible show wpAny _ _ (call (Value.ref 108) [Value.bytes _ _]) _ _ _); k_dflt (refine' Claim.use (get_sep_ok _ _) (by (k_asm)) (by (k_asm)) (by (k_asm)) (by (k_asm)) (by (k_asm)) (by (first | exact rfl | assumption)) (by (ktr_room)) (by (ktr_units)) ?_); intro v h' tk' hv F' N'; (obtain ⟨t9, hv⟩ := hv); subst hv; (try dsimp only); (try k_fold))
  k_with "m:call ref" => (k_here; (with_reducible show wpAny _ _ (call (Value.ref 122) [Value.bytes _ _]) _ _ _); k_dflt (refine' Claim.use (dirname_ok _ _ (by (walk_at "mine:size"))) (by (k_asm)) (by (k_asm)) (by (k_asm)) (by (k_asm)) (by (k_asm)) (by (first | exact rfl | assumption)) (by (ktr_room)) (by (ktr_units)) ?_); intro v h' tk' hv F' N'; (obtain ⟨t9, hv⟩ := hv); subst hv; (try dsimp only); (try k_fold))
  k_with "m:exec For Name Call cons nil" => refine Stop.go ?_
  trivial
section
/-- dirname, so many times -/
noncomputable def dirIter (b : Array UInt8) : Nat → Array UInt8
  | 0 => b
  | k + 1 => dirRaw (dirIter b k)
theorem dirRaw_size (b : Array UInt8) : (dirRaw b).size ≤ b.size := by
  have h := KBc.size_picked_le b none (some (rfindRaw b #[47] + 1))
  unfold dirRaw
  split
  · exact h
  · split
    · refine Nat.le_trans ?_ h
      unfold rstripRaw
      simp only [List.size_toArray, List.length_reverse]
      have := (List.dropWhile_suffix (l := (KBy.picked b none (some (rfindRaw b #[47] + 1))).toList.reverse) #[47].contains).length_le
      simpa using this
    · exact h
theorem dirIter_size (b : Array UInt8) : ∀ k, (dirIter b k).size ≤ b.size
  | 0 => Nat.le_refl _
  | k + 1 => Nat.le_trans (dirRaw_size _) (dirIter_size b k)
/-- the folders: the path, its front, its front's front .. -/
noncomputable def climbL (b : Array UInt8) (k : Nat) : List (Array UInt8) := (List.range (k + 1)).map (dirIter b)
theorem climbL_succ (b : Array UInt8) (k : Nat) : climbL b (k + 1) = climbL b k ++ [dirIter b (k + 1)] := by unfold climbL; rw [List.range_succ, List.map_append]; rfl
set_option maxRecDepth 100000 in
set_option maxHeartbeats 4000000 in
theorem climb_ok (b : Array UInt8) (t : Tok) (hb : b.size ≤ 1000) : ClaimL 5 40 148 [.bytes b t] (fun ws => BytesAre ws (climbL b 8)) := by
  unfold ClaimL
  k_fill
  rintro w ⟨mean, mg, mb, dp, un, gd, cn, cs, a, ccd, cl, outer, A₀, base, h₀, L, m⟩ news s Q E ⟨⟨B, X, T, hk, hd, hu⟩, F, N⟩ hret
  dsimp only [Place.around] at *
  refine wpAny_call ?_
  k_dflt cell_enter
  k_steps
  (with_reducible rename Fr _ _ _ _ => F₁)
  (with_reducible rename News _ _ _ _ => N₁)
  obtain ⟨l₁, e₁, hA₁⟩ := name_at (Fr_here F₁)
  subst e₁
  have FN := And.intro F₁ N₁
  have l₁lt : ∀ p ∈ news, p.1 < l₁ := by assumption
  refine wpP.any (For_rng (a := 0) (b := 8) (c := 1) (n := 8) every_kept rfl (by decide) (by decide) F₁ N₁ ?hx (fun i m' nw => At m' (Str.ofString "folders") (.ref l₁) ∧ ∃ vs t', nw = (l₁, listOf (vs ++ [.bytes (dirIter b i) t']).toArray i) :: news ∧ BytesAre (vs ++ [.bytes (dirIter b i) t']) (climbL b i)) ?h0 ?turn ?fin)
  case hx =>
    k_steps
    exact RngAt.intro (by assumption) FN.1 FN.2 (by assumption)
  case h0 => exact ⟨hA₁, [], t, rfl, .cons .nil⟩
  case turn =>
    intro i t₂ m₂ news₂ h₂ tk₂ I oI hi hJ off F₂ N₂
    obtain ⟨hA, vs, t', rfl, hB⟩ := hJ
    have hz := dirIter_size b i
    clear FN hA₁ F₁ N₁
    refine wpAny_assign_Name ?_
    k_steps
    refine wpP.of_any ?_
    k_steps
    (with_reducible rename Fr _ _ _ _ => F₃)
    (with_reducible rename News _ _ _ _ => N₃)
    have hlen := hB.length
    have hIl : l₁ ≠ I := off (l₁, _) List.mem_cons_self
    refine append_L (pre := [(I, oI)]) (post := news) F₃ N₃ (fun p hp => by rw [List.mem_singleton.mp hp]; exact hIl.symm) (fun p hp => Nat.ne_of_lt (l₁lt p hp)) ?_ (by rw [hlen]; unfold climbL; simp; omega)
    intro h₄ F₄ N₄
    clear F₃ N₃
    k_steps
    refine UnrEnd.intro (by assumption) (by assumption) ((l₁, listOf ((vs ++ [PySem.Value.bytes (dirIter b i) t']) ++ [PySem.Value.bytes (dirIter b (i + 1)) _]).toArray (i + 1)) :: news) (fun p hp => hp) (fun p hp => ?_) ⟨At.skip (by decide) (by assumption), _, _, rfl, ?_⟩
    · rcases List.mem_cons.mp hp with rfl | hp
      · exact hIl
      · exact off p (List.mem_cons_of_mem _ hp)
    · rw [climbL_succ]; exact hB.snoc
  case fin =>
    intro h₂ tk₂ m₂ news₂ F₂ N₂ hJ
    obtain ⟨hA, vs, t', rfl, hB⟩ := hJ
    clear FN hA₁ F₁ N₁
    k_steps
    refine hret _ _ 8 _ _ hB ?f ?n l₁lt
    case f => assumption
    case n => assumption
end
section
open PySem PySem.W PyProof.Rows PySem.Calls
set_option maxRecDepth 100000

/-- all of the ledger's lie below -/
noncomputable def Lts (ps : List (Addr × Obj)) (a : Addr) : Prop := ∀ p ∈ ps, p.1 < a
theorem Lts.mk' {ps : List (Addr × Obj)} {a : Addr} (h : ∀ p ∈ ps, p.1 < a) : Lts ps a := h
theorem Lts.drop {q : Addr × Obj} {ps : List (Addr × Obj)} {a : Addr} (h : Lts (q :: ps) a) : Lts ps a := fun p hp => h p (List.mem_cons_of_mem _ hp)
theorem Lts.ne {ps : List (Addr × Obj)} {a b : Addr} (h : Lts ps a) (hb : @LE.le Nat _ a b) : ∀ p ∈ ps, p.1 ≠ b := fun p hp => Nat.ne_of_lt (Nat.lt_of_lt_of_le (h p hp) hb)
section
variable {prog : Program} {w : World} {A A' : Around} {E : PySem.Value → Shared → Prop} {s : Shared} {M T It S : Addr} {f : PySem.Value}
/-- a map object over one iterator: the tree of its next item -/
theorem map_tree {Q : Fin → Shared → Prop} {G : PySem.Value → Shared → Prop} (m : s.heap.get? M = some (mapObj T f)) (t : s.heap.get? T = some (tupObj [.ref It] 0))
    (item : wpAny (model prog w) A (Builtin.SmallTypes.nextOf (.ref It)) G E s) (on : ∀ x t, G x t → t.heap.get? M = some (mapObj T f) ∧ wpAny (model prog w) A (call f [x]) (fun v => Q (.done (.ret v))) E t) :
    wpAny (model prog w) A (Builtin.«map.__next__» ⟨[.ref M], []⟩) Q E s := by
  have step : ∀ {y : PySem.Value} {Q' E' : PySem.Value → Shared → Prop}, y = .ref It → (∀ x t, G x t → Q' x t) → (∀ e t, E e t → E' e t) → wpAny (model prog w) A (Builtin.SmallTypes.nextOf y) Q' E' s := by
    rintro _ _ _ rfl hQ hE
    exact wpAny_mono item hQ hE
  obtain ⟨hp, g, d, tk, os⟩ := s
  wp_walk using step
  · rfl
  · intro x t₁ got
    obtain ⟨m₁, q⟩ := on x t₁ got
    have call_ : ∀ {g : PySem.Value} {xs : List PySem.Value} {Q' E' : PySem.Value → Shared → Prop}, g = f → xs = [x] → (∀ v t, Q (.done (.ret v)) t → Q' v t) → (∀ e t, E e t → E' e t) → wpAny (model prog w) A (call g xs) Q' E' t₁ := by
      rintro _ _ _ _ rfl rfl hQ hE
      exact wpAny_mono q hQ hE
    obtain ⟨hp, g, d, tk, os⟩ := t₁
    wp_walk using call_
    · rfl
    · rfl
    · exact fun v t q => wpAny_bind (wpAny_letGo (wpAny_pure q))
    · exact fun _ _ e => e
  · exact fun _ _ e => e
/-- a list takes up a map object: room is made, and the items are taken one by one -/
theorem grow_map {R : Result → Shared → Prop} {res : PySem.Value} {k : Nat} (m : s.heap.get? M = some (mapObj T f)) (apart : @Ne Nat S M) (list : s.heap.get? S = some (listOf #[] k))
    (self : ∀ {Q E : PySem.Value → Shared → Prop}, Q (.ref M) s → wpAny (model prog w) A (pyIter (.ref M)) Q E s)
    (loop : ∀ h', (∀ b o, b ≠ S → s.heap.get? b = some o → h'.get? b = some o) → h'.get? S = some (listOf #[] (k + 2)) → codeP Every (model prog w) A' (.builtin "list.extend.loop" ⟨[.ref S, .ref M, res], []⟩) R { s with heap := h' }) :
    wpAny (model prog w) A (Builtin.List.listExtendWith (.ref S) (.ref M) res) (onP Every (model prog w) A' R) E s := by
  have isMap : s.TypeIs (.ref M) "map" := ⟨_, m, rfl⟩
  have differ : Builtin.List.listSameRef (.ref S) (.ref M) = false := by simp [Builtin.List.listSameRef]; exact apart
  unfold Builtin.List.listExtendWith Builtin.List.listLengthHint
  obtain ⟨hp, g, d, tk, os⟩ := s
  wp_walk using wpAny_typeOf isMap, self, wpAny_specialOf isMap map_no_len, wpAny_specialOf isMap map_no_hint
  refine ⟨plainId_quiet PySem.F.plain_extend_loop _, (rfl : calm (.builtin "list.extend.loop" _) = true), loop _ (fun b o ne e => ?_) ?_⟩
  · exact (Heap.get?_update_other _ _ (Ne.symm ne)).trans ((Heap.get?_update_other _ _ (Ne.symm ne)).trans e)
  · exact Heap.get?_update_self _ (Heap.get?_update_self _ list rfl) rfl
/-- its iterator is itself -/
theorem map_own {Q : PySem.Value → Shared → Prop} (m : s.heap.get? M = some (mapObj T f)) (on : Q (.ref M) s) : wpAny (model prog w) A (pyIter (.ref M)) Q E s := by
  have isMap : s.TypeIs (.ref M) "map" := ⟨_, m, rfl⟩
  refine wpAny_pyIter_slot isMap slot_map_iter (wpAny_call_entry slot_map_iter isMap entry_map_iter (wpAny_pure ?_) (args_map_iter _))
  exact ⟨_, rfl, "map", _, isMap, slot_map_next.lookup, on⟩
/-- a list of what it gives, by the loop alone -/
theorem collect_new {Q : List PySem.Value → Shared → Prop} (m : s.heap.get? M = some (mapObj T f)) (big : @LT.lt Nat _ M s.heap.objs.size)
    (loop : ∀ h' R, (∀ b o, s.heap.get? b = some o → h'.get? b = some o) → h'.get? s.heap.objs.size = some (listOf #[] 2) →
      (∀ h tk xs k, h.get? s.heap.objs.size = some (listOf xs k) → Q xs.toList { s with heap := h, toks := tk } → R (.ok (.ret (.ref s.heap.objs.size))) { s with heap := h, toks := tk }) →
      codeP Every (model prog w) A (.builtin "list.extend.loop" ⟨[.ref s.heap.objs.size, .ref M, .ref s.heap.objs.size], []⟩) R { s with heap := h' }) :
    wpAny (model prog w) A (collect (.ref M)) Q E s := by
  have calm_ : ∀ {args}, calm (.builtin "list.__iadd__" args) = true := rfl
  refine wpP.any (wpP_bind (wpP_runValue every_kept rfl (codeP_builtin every_kept PySem.F.entry_proto_collect ?_)))
  rw [Around.under_plainId PySem.F.plain_proto_collect _]
  refine .of_any (wpAny_bind (m := newList []) (wpAny_newObj_type (wpAny_pure ⟨plainId_quiet PySem.F.plain_list_iadd _, calm_, codeP_builtin every_kept PySem.F.entry_list_iadd ?_⟩)))
  rw [Around.under_plainId PySem.F.plain_list_iadd _]
  have old : ∀ b o, s.heap.get? b = some o → (s.heap.push (listOf #[] 0)).get? b = some o := fun b o e => Heap.get?_push_of_some _ e
  refine .of_any (grow_map (s := { s with heap := s.heap.push (listOf #[] 0) }) (old _ _ m) (Nat.ne_of_gt big) (Heap.get?_push_size _ rfl) (map_own (old _ _ m)) fun h' keep new => ?_)
  refine loop h' _ (fun b o e => keep b o (Nat.ne_of_lt (Heap.lt_size e)) (old b o e)) new fun h tk xs k list q => ?_
  exact .of_any (wpAny_bind (m := load _) (wpAny_load list (wpAny_pure q)))
end
/-- a map object over a list, at work beside a frame and a ledger: i items have been taken -/
noncomputable def Feed (h₀ : Heap) (L : Addr) (m : Str → Option PySem.Value) (news : List (Addr × Obj)) (M T It la : Addr) (f : PySem.Value) (i : Nat) (h : Heap) : Prop :=
  ∃ oI : Obj, (oI.cls = .type "list_iterator" ∧ oI.data = .fields #[.ref la, .int (i : Int) 0]) ∧ Fr h₀ L h m ∧ News h₀ L h ((M, mapObj T f) :: (T, tupObj [.ref It] 0) :: (It, oI) :: news) ∧ (@Ne Nat M It ∧ @Ne Nat T It ∧ ∀ q ∈ news, @Ne Nat q.1 It)
section
variable {prog : Program} {w : World} {A : Around} {E : PySem.Value → Shared → Prop} {s : Shared} {h₀ : Heap} {L : Addr} {m : Str → Option PySem.Value} {news : List (Addr × Obj)} {M T It la : Addr} {f : PySem.Value} {vs : List PySem.Value} {n i : Nat}
theorem Feed.map {h : Heap} (fd : Feed h₀ L m news M T It la f i h) : h.get? M = some (mapObj T f) := by
  obtain ⟨_, _, _, N, _⟩ := fd
  exact (N _ (.head _)).1
/-- an item has been taken from the list -/
theorem Feed.taken {h h' : Heap} (fd : Feed h₀ L m news M T It la f i h) (at_ : h'.IsListIter It la (i + 1)) (only : Heap.SameBut It h h') : Feed h₀ L m news M T It la f (i + 1) h' := by
  obtain ⟨oI, _, F, N, mi, ti, off⟩ := fd
  obtain ⟨o', here, cls, data⟩ := at_
  have it := N (It, oI) (.tail _ (.tail _ (.head _)))
  refine ⟨o', ⟨cls, data⟩, F.change only it.2.1 it.2.2, N.setAt (own := [(M, _), (T, _)]) ?_ off only here, mi, ti, off⟩
  intro q hq
  simp only [List.mem_cons, List.not_mem_nil, or_false] at hq
  rcases hq with rfl | rfl <;> assumption
/-- map(f, l) -/
theorem feed_new {fn : Addr} {Q : PySem.Value → Shared → Prop} (F : Fr h₀ L s.heap m) (N : News h₀ L s.heap news) (row : (la, listOf vs.toArray n) ∈ news)
    (on : ∀ h' M T It, Fr h₀ L h' m → News h₀ L h' news → Feed h₀ L m news M T It la (.ref fn) 0 h' → Q (.ref M) { s with heap := h' }) : wpAny (model prog w) A (call (.type "map") [.ref fn, .ref la]) Q E s := by
  refine callType_new called_map (by decide) (typeCall_map_2 _ _) (newCall_map_2 _ _) (fun obj => PySem.F.args_object_init_3 obj _ _) entry_map_new (meets_map_new fn la vs.toArray) ⟨isL N row, ?_⟩
  have F₁ := F.push ({ cls := .type "list_iterator", data := .fields #[.ref la, .int 0 0] } : Obj)
  have N₁ := N.push F ({ cls := .type "list_iterator", data := .fields #[.ref la, .int 0 0] } : Obj)
  have F₂ := F₁.push (tupObj [.ref s.heap.objs.size] 0)
  have N₂ := N₁.push F₁ (tupObj [.ref s.heap.objs.size] 0)
  have F₃ := F₂.push (mapObj (s.heap.push ({ cls := .type "list_iterator", data := .fields #[.ref la, .int 0 0] } : Obj)).objs.size (.ref fn))
  have N₃ := N₂.push F₂ (mapObj (s.heap.push ({ cls := .type "list_iterator", data := .fields #[.ref la, .int 0 0] } : Obj)).objs.size (.ref fn))
  have lt₁ := (N₁.apart _ (.head _))
  have lt₂ := (N₂.apart _ (.tail _ (.head _)))
  exact ⟨⟨_, (N₃ _ (.head _)).1, rfl⟩, on _ _ _ _ F₃ (fun q hq => N₃ q (.tail _ (.tail _ (.tail _ hq)))) ⟨_, ⟨rfl, rfl⟩, F₃, N₃, Ne.symm lt₂, Ne.symm lt₁, N.apart⟩⟩
/-- at the list's end it gives nothing -/
theorem feed_end {Q : Option PySem.Value → Shared → Prop} (calm_ : A.handled = none) (row : (la, listOf vs.toArray n) ∈ news) (fd : Feed h₀ L m news M T It la f vs.length s.heap)
    (on : ∀ h, Fr h₀ L h m → News h₀ L h news → Q none { s with heap := h }) : wpAny (model prog w) A (pyNext (.ref M)) Q E s := by
  obtain ⟨oI, here, F, N, mi, ti, off⟩ := fd
  have isMap : s.TypeIs (.ref M) "map" := ⟨_, (N _ (.head _)).1, rfl⟩
  have it := N (It, oI) (.tail _ (.tail _ (.head _)))
  have list := isL (fun q hq => N q (.tail _ (.tail _ (.tail _ hq)))) row
  refine wpAny_bind (wpAny_attempt (wpAny_callSpecial?_slot (name := Str.ofString "__next__") isMap slot_map_next (wpAny_call_entry slot_map_next isMap entry_map_next (map_tree (G := fun _ _ => False) (N _ (.head _)).1 (N _ (.tail _ (.head _))).1 ?_ fun _ _ no => no.elim) (args_map_next _))))
  refine wpAny_nextOf_list_end calm_ ⟨oI, it.1, here⟩ list (by simp) fun h e but stop => ?_
  have still : ∀ b o, b ≠ It → s.heap.get? b = some o → h.get? b = some o := fun b o ne k => but b o ne k
  refine wpAny_bind (wpAny_isInstance (T := "StopIteration") (b := true) (stop.imp fun _ q => q) isSubtype_stop ?_)
  exact wpAny_pure (on h ⟨F.ns.at' fun o k => still _ o (Ne.symm it.2.1) k, fun b o k => still b o (fun e => by subst e; rw [it.2.2] at k; cases k) (F.keep b o k), F.above⟩ fun q hq => ⟨still _ _ (off q hq) (N q (.tail _ (.tail _ (.tail _ hq)))).1, (N q (.tail _ (.tail _ (.tail _ hq)))).2⟩)
end
section
variable {D U : Nat} {f : Addr} {bs : List (Array UInt8)} {vs : List PySem.Value} {w : World} {p : Place} {news : List (Addr × Obj)} {la M T It : Addr} {n i : Nat} {s : Shared}
/-- an item: what the function gives for it, by its contract -/
theorem feed_next {Q : Option PySem.Value → Shared → Prop} {E : PySem.Value → Shared → Prop} (hv : BytesAre vs bs) (own : ∀ b t, Claim D U f [.bytes b t] (fun v => v = .bytes b t)) (firm : p.Firm (Mine.lawK w.params) D (1 + U)) (row : (la, listOf vs.toArray n) ∈ news) (lt : i < vs.length)
    (fd : Feed p.first p.own p.vars news M T It la (.ref f) i s.heap) (on : ∀ h tk, Feed p.first p.own p.vars news M T It la (.ref f) (i + 1) h → Q (some vs[i]) { s with heap := h, toks := tk }) :
    wpAny (model PySem.Challenge.rw_pd0128_01.row.prog w) p.around (pyNext (.ref M)) Q E s := by
  obtain ⟨x, tk, _, _, e⟩ := getD_bytes hv lt
  have e : vs[i] = .bytes x tk := by simpa [List.getElem?_eq_getElem lt] using e
  obtain ⟨oI, here, F, N, _⟩ := id fd
  have isMap : s.TypeIs (.ref M) "map" := ⟨_, fd.map, rfl⟩
  have list := isL (fun q hq => N q (.tail _ (.tail _ (.tail _ hq)))) row
  refine wpAny_bind (wpAny_attempt (wpAny_callSpecial?_slot (name := Str.ofString "__next__") isMap slot_map_next (wpAny_call_entry slot_map_next isMap entry_map_next
    (map_tree (G := fun v t => v = .bytes x tk ∧ ∃ h, t = { s with heap := h } ∧ Feed p.first p.own p.vars news M T It la (.ref f) (i + 1) h) fd.map (N _ (.tail _ (.head _))).1
      (wpAny_nextOf_list_item ⟨oI, (N (It, oI) (.tail _ (.tail _ (.head _)))).1, here⟩ list (x := .bytes x tk) (by simp [lt, e]) fun h it only => ⟨rfl, h, rfl, fd.taken it only⟩) ?_) (args_map_next _))))
  rintro _ _ ⟨rfl, h, rfl, fd₁⟩
  refine ⟨fd₁.map, ?_⟩
  obtain ⟨oI₁, here₁, F₁, N₁, off₁⟩ := fd₁
  refine own x tk w (p.on 1) _ { s with heap := h } _ _ ⟨firm.on, F₁, N₁⟩ fun v g tk' is F₂ N₂ => ?_
  subst is
  exact ⟨_, rfl, wpAny_pure (e ▸ on g tk' ⟨oI₁, here₁, F₂, N₂, off₁⟩)⟩
theorem row_more {xs : List PySem.Value} {j c : Nat} (lt : j < xs.length) : Obj.mapSeq (·.push xs[j]) (listOf (xs.take j).toArray c) = listOf (xs.take (j + 1)).toArray (c + 1) := by
  have : xs.take (j + 1) = xs.take j ++ [xs[j]] := by simp
  rw [this]
  generalize xs.take j = ys, xs[j] = v
  simp [Obj.mapSeq, W.listOf]
set_option maxHeartbeats 1000000 in
/-- the loop that fills a list S with what a map object gives -/
theorem feed_loop {R : Result → Shared → Prop} {S : Addr} {c : Nat} {res : PySem.Value} (hv : BytesAre vs bs) (own : ∀ b t, Claim D U f [.bytes b t] (fun v => v = .bytes b t)) (firm : p.Firm (Mine.lawK w.params) D (2 + U)) (row : (la, listOf vs.toArray n) ∈ news) (short : vs.length ≤ 1000000)
    (apart : @Ne Nat M S ∧ @Ne Nat T S ∧ @Ne Nat It S) (off : ∀ q ∈ news, @Ne Nat q.1 S) (fd : Feed p.first p.own p.vars ((S, listOf #[] c) :: news) M T It la (.ref f) 0 s.heap)
    (done : ∀ h tk c, Fr p.first p.own h p.vars → News p.first p.own h ((S, listOf vs.toArray c) :: news) → R (.ok (.ret res)) { s with heap := h, toks := tk }) :
    codeP Every (model PySem.Challenge.rw_pd0128_01.row.prog w) p.around (.builtin "list.extend.loop" ⟨[.ref S, .ref M, res], []⟩) R s := by
  refine codeP_loop every_kept (plainId_quiet PySem.F.plain_extend_loop _) (rfl : calm (.builtin "list.extend.loop" _) = true) (fun k t => ∃ i ≤ vs.length, i + k = vs.length ∧ (∃ h tk, t = { s with heap := h, toks := tk }) ∧ ∃ c, Feed p.first p.own p.vars ((S, listOf (vs.take i).toArray c) :: news) M T It la (.ref f) i t.heap) ?_ vs.length
    ⟨0, Nat.zero_le _, Nat.zero_add _, ⟨_, _, rfl⟩, c, fd⟩
  rintro k _ ⟨i, le, sum, ⟨h, tk, rfl⟩, c, fd⟩
  rw [den_builtin PySem.F.entry_extend_loop, Around.under_plainId PySem.F.plain_extend_loop _]
  refine .of_any (wpAny_bind (m := pyNext (.ref M)) ?_)
  rcases Nat.lt_or_ge i vs.length with lt | ge
  · refine feed_next (p := p.on 1) hv own (firm.less (V := 1 + (1 + U)) (by omega)).on (.tail _ row) lt fd fun h₁ tk₁ fd₁ => ?_
    obtain ⟨oI, here, F, N, mi, ti, offI⟩ := fd₁
    have at_ := N (S, _) (.tail _ (.tail _ (.tail _ (.head _))))
    have only : Heap.SameBut S h₁ (h₁.update S (Obj.mapSeq (·.push vs[i]))) := Heap.SameBut.update ..
    have now : (h₁.update S (Obj.mapSeq (·.push vs[i]))).get? S = some (listOf (vs.take (i + 1)).toArray (c + 1)) := by
      rw [Heap.get?_update_self _ at_.1 rfl, row_more lt]
    refine wpAny_bind (m := updateSeq S _) (wpAny_updateSeq at_.1 rfl (wpAny_pure (.inl ⟨rfl, k - 1, by omega, i + 1, lt, by omega, ⟨_, _, rfl⟩, c + 1, oI, here, F.change only at_.2.1 at_.2.2, N.setAt (own := [(M, _), (T, _), (It, _)]) ?_ off only now, mi, ti, ?_⟩)) ?_ ?_)
    · intro q hq
      simp only [List.mem_cons, List.not_mem_nil, or_false] at hq
      rcases hq with rfl | rfl | rfl
      · exact apart.1
      · exact apart.2.1
      · exact apart.2.2
    · intro q hq
      rcases List.mem_cons.mp hq with rfl | hq
      · exact (offI _ List.mem_cons_self : @Ne Nat S It)
      · exact offI q (.tail _ hq)
    · rw [sizeLine_eq]; simp only [List.size_toArray, List.length_take]; omega
    · rw [sizeLine_eq]; simp only [Array.size_push, List.size_toArray, List.length_take]; omega
  · obtain rfl : i = vs.length := Nat.le_antisymm le ge
    refine feed_end rfl (.tail _ row) fd fun h₁ F₁ N₁ => wpAny_pure (.inr (done h₁ tk c F₁ ?_))
    rwa [List.take_length] at N₁
end
/-- tuple(map(f, l)) of a function that gives its octets back: a tuple of the same items -/
theorem call_tuple_map {D U : Nat} {f : Addr} {bs : List (Array UInt8)} {vs : List PySem.Value} (hv : BytesAre vs bs) (own : ∀ b t, Claim D U f [.bytes b t] (fun v => v = .bytes b t))
    {w : World} {mean : ExcName → Option PySem.Value} {mg mb : Str → Option PySem.Value} {news : List (Addr × Obj)} {dp un : Nat} {gd : Option (List Code)} {cn : Str} {cs : Scope} {a : Addr} {ccd : PySem.Value} {cl : List (Str × Addr)} {outer : List Env} {A₀ : Around} {base h₀ : Heap} {L : Addr} {m : Str → Option PySem.Value} {la M T It : Addr} {n : Nat}
    (B : Below A₀ base outer h₀) (X : (Mine.lawK w.params).In h₀) (top : Top Mine.hd.view_1_2 (looseW Mine.hd.view_1_2 []) mean mg mb h₀) (hk : cs.kind = .function) (row : (la, listOf vs.toArray n) ∈ news)
    (hd : dp + D < recursionLimit) (hu : un + U + 6 < cLine) (short : vs.length ≤ 1000000) {s : Shared} {Q E : PySem.Value → Shared → Prop} (fd : Feed h₀ L m news M T It la (.ref f) 0 s.heap)
    (on : ∀ t h' tk, Fr h₀ L h' m → News h₀ L h' ((t, tupObj vs 0) :: news) → (∀ p ∈ news, p.1 < t) → Q (.ref t) { s with heap := h', toks := tk }) :
    wpAny (model PySem.Challenge.rw_pd0128_01.row.prog w) (ktrTop dp un gd cn cs L a ccd cl outer) (call (.type "tuple") [.ref M]) Q E s := by
  have isMap : s.TypeIs (.ref M) "map" := ⟨_, fd.map, rfl⟩
  obtain ⟨oI, here, F, N, mi, ti, off⟩ := id fd
  have firm : Place.Firm ⟨mean, mg, mb, dp, un + 2, gd, cn, cs, a, ccd, cl, outer, A₀, base, h₀, L, m⟩ (Mine.lawK w.params) D (2 + U) := ⟨B, X, top, hk, hd, by show un + 2 + (2 + U) < cLine; omega⟩
  -- the list that is filled on the way
  have list : ∀ {Q' : List PySem.Value → Shared → Prop} {E' : PySem.Value → Shared → Prop}, (∀ h tk, Fr h₀ L h m → News h₀ L h news → Q' vs { s with heap := h, toks := tk }) → wpAny (model PySem.Challenge.rw_pd0128_01.row.prog w) (ktrTop dp un gd cn cs L a ccd cl outer).in1.in1 (collect (.ref M)) Q' E' s := by
    intro Q' E' q
    refine collect_new fd.map (Heap.lt_size fd.map) fun h' R keep new fin => ?_
    have lower : ∀ {b o}, s.heap.get? b = some o → @Ne Nat b s.heap.objs.size := fun e => Nat.ne_of_lt (Heap.lt_size e)
    refine feed_loop (c := 2) hv own firm row short ⟨lower fd.map, lower (N _ (.tail _ (.head _))).1, lower (N _ (.tail _ (.tail _ (.head _)))).1⟩ (fun q hq => lower (N q (.tail _ (.tail _ (.tail _ hq)))).1) ⟨oI, here, F.keeps keep, ?_, mi, ti, ?_⟩ fun h tk c F₁ N₁ => ?_
    · have old := N.grown keep
      intro q hq
      simp only [List.mem_cons] at hq
      rcases hq with rfl | rfl | rfl | rfl | hq
      · exact old _ (.head _)
      · exact old _ (.tail _ (.head _))
      · exact old _ (.tail _ (.tail _ (.head _)))
      · exact ⟨new, Ne.symm (fresh_I F).1, (fresh_I F).2⟩
      · exact old _ (.tail _ (.tail _ (.tail _ hq)))
    · intro q hq
      rcases List.mem_cons.mp hq with rfl | hq
      · exact Ne.symm (lower (N _ (.tail _ (.tail _ (.head _)))).1)
      · exact off q hq
    · exact fin h tk _ c (N₁ _ (.head _)).1 (q h tk F₁ fun p hp => N₁ p (.tail _ hp))
  refine callType_codes (Q₁ := fun obj t => t.TypeIs obj "tuple" ∧ Q obj t) PySem.F.called_tuple (PySem.F.typeCall_tuple_1 _) PySem.F.entry_object_init (codeAny_call_builtin PySem.F.plain_tuple_new PySem.F.entry_tuple_new (wpAny_of_eq (PySem.F.newCall_tuple_1 _) ?_))
    fun obj t made => ⟨made.1, PySem.F.args_object_init_2 obj _, object_init_meets PySem.F.called_tuple.init.lookup PySem.F.called_tuple.made (by decide) _ w _ _ t ⟨made.1, rfl, made.2⟩⟩
  have hsub := sub_tuple_self
  have hinit := init_tuple_lookup
  have hmade := madeHere_tuple
  wp_walk using wpAny_typeOf isMap, list
  intro h tk F₁ N₁
  refine wpAny_bind (m := newObj _ _) (wpAny_newObj_type ?_ (by show vs.toArray.size ≤ sizeLine; rw [sizeLine_eq, List.size_toArray]; omega))
  have N₂ := N₁.push F₁ (tupObj vs 0)
  exact wpAny_pure ⟨⟨_, (N₂ _ (.head _)).1, rfl⟩, on _ _ tk (F₁.push _) N₂ fun q hq => Heap.lt_size (N₁ q hq).1⟩
theorem BytesAre.getV : ∀ {vs : List PySem.Value} {bs : List (Array UInt8)}, BytesAre vs bs → ∀ {i : Nat} {v : PySem.Value}, vs[i]? = some v → ∃ b t, v = .bytes b t ∧ bs[i]? = some b
  | _, _, .nil, i, v, h => by simp at h
  | _, _, .cons (b := b) (t := t) h, 0, v, e => by simp at e; exact ⟨b, t, e.symm, by simp⟩
  | _, _, .cons h, i + 1, v, e => by simpa using h.getV (by simpa using e)
/-- the inner block, i pieces on -/
noncomputable def InnerJ (nw₀ : List (Addr × Obj)) (bs : List (Array UInt8)) (i : Nat) (ys : List PySem.Value) (nw : List (Addr × Obj)) : Prop := nw = nw₀ ∧ BytesAre ys ((bs.take i).filter keepB)
theorem InnerJ.start {nw : List (Addr × Obj)} {bs : List (Array UInt8)} : InnerJ nw bs 0 [] nw := ⟨rfl, by simp; exact .nil⟩
theorem InnerJ.len {nw₀ : List (Addr × Obj)} {bs : List (Array UInt8)} {i : Nat} {ys : List PySem.Value} {nw : List (Addr × Obj)} (h : InnerJ nw₀ bs i ys nw) : ys.length ≤ i := by
  rw [h.2.length]
  exact Nat.le_trans (List.length_filter_le _ _) (by rw [List.length_take]; omega)
theorem InnerJ.keep {nw₀ : List (Addr × Obj)} {bs : List (Array UInt8)} {i : Nat} {ys : List PySem.Value} {c : Array UInt8} {t : Tok} (h : InnerJ nw₀ bs i ys nw₀) (hc : bs[i]? = some c) (hk : keepB c = true) : InnerJ nw₀ bs (i + 1) (ys ++ [.bytes c t]) nw₀ := by
  refine ⟨rfl, ?_⟩
  rw [List.take_add_one, hc, List.filter_append]
  have : List.filter keepB (some c).toList = [c] := by simp [hk]
  rw [this]
  exact h.2.snoc
theorem InnerJ.drop {nw₀ : List (Addr × Obj)} {bs : List (Array UInt8)} {i : Nat} {ys : List PySem.Value} {c : Array UInt8} (h : InnerJ nw₀ bs i ys nw₀) (hc : bs[i]? = some c) (hk : keepB c = false) : InnerJ nw₀ bs (i + 1) ys nw₀ := by
  refine ⟨rfl, ?_⟩
  rw [List.take_add_one, hc, List.filter_append]
  have : List.filter keepB (some c).toList = [] := by simp [hk]
  rw [this, List.append_nil]
  exact h.2
theorem InnerJ.fin {nw₀ : List (Addr × Obj)} {bs : List (Array UInt8)} {vs ys : List PySem.Value} {nw : List (Addr × Obj)} (hv : BytesAre vs bs) (h : InnerJ nw₀ bs vs.length ys nw) : nw = nw₀ ∧ BytesAre ys (bs.filter keepB) := by
  refine ⟨h.1, ?_⟩
  have := h.2
  rw [hv.length, List.take_length] at this
  exact this
/-- the loop of commonpath, i pieces on -/
noncomputable def LoopJ (nw₀ : List (Addr × Obj)) (r1 r2 : Addr) (x1 x2 : List (Array UInt8)) (i : Nat) (m : Str → Option PySem.Value) (nw : List (Addr × Obj)) : Prop :=
  At m (Str.ofString "s2") (.ref r2) ∧ At m (Str.ofString "s1") (.ref r1) ∧ At m (Str.ofString "common") (.ref r1) ∧ At m (Str.ofString "isabs") (.bool false) ∧ nw = nw₀ ∧ x1.take i = x2.take i
theorem LoopJ.start {nw : List (Addr × Obj)} {r1 r2 : Addr} {x1 x2 : List (Array UInt8)} {m : Str → Option PySem.Value} (h1 : At m (Str.ofString "s2") (.ref r2)) (h2 : At m (Str.ofString "s1") (.ref r1)) (h3 : At m (Str.ofString "common") (.ref r1)) (h4 : At m (Str.ofString "isabs") (.bool false)) : LoopJ nw r1 r2 x1 x2 0 m nw :=
  ⟨h1, h2, h3, h4, rfl, rfl⟩
theorem take_same {α : Type} {xs ys : List α} {i : Nat} (h : xs.take i = ys.take i) (h1 : i < xs.length) (h2 : i < ys.length) (he : xs[i] = ys[i]) : xs.take (i + 1) = ys.take (i + 1) := by
  rw [List.take_add_one, List.take_add_one, h, List.getElem?_eq_getElem h1, List.getElem?_eq_getElem h2, he]
theorem toList_eq_of {x y : Array UInt8} (h : (x.toList != y.toList) = false) : x = y := by
  have : (x.toList == y.toList) = true := by
    cases q : (x.toList == y.toList) with
    | true => rfl
    | false => rw [bne, q] at h; exact absurd h (by decide)
  exact Array.toList_inj.mp (beq_iff_eq.mp this)
theorem toList_ne_of {x y : Array UInt8} (h : (x.toList != y.toList) = true) : x ≠ y := by
  rintro rfl
  simp at h
section
variable {prog : Program} {w : World} {A : Around} {E : PySem.Value → Shared → Prop} {s : Shared} {h₀ : Heap} {L : Addr} {m : Str → Option PySem.Value} {news : List (Addr × Obj)}
theorem call_joinN {b : Array UInt8} {t : Tok} {a : Addr} {vs : List PySem.Value} {n : Nat} {bs : List (Array UInt8)} {Q : PySem.Value → Shared → Prop} (N : News h₀ L s.heap news) (hm : (a, listOf vs.toArray n) ∈ news) (hv : BytesAre vs bs) (hb : b.size ≤ 3) (hz : (∀ x ∈ bs, x.size ≤ 1000) ∧ bs.length ≤ 1010)
    (h : ∀ t' k, Q (.bytes (Builtin.Bytes.joined b bs) t') { s with toks := k }) : wpAny (model prog w) A (call (.builtin "bytes.join") [.bytes b t, .ref a]) Q E s :=
  call_join hv (N _ hm).1 (joined_sum hb hz.1 hz.2) (joined_size hb hz.1 hz.2) h
end
end
theorem rules_C6 : True := by
  k_with_none
  k_with "m:call type:type" => (k_here; (with_reducible show wpAny _ _ (call (Value.type "type") [Value.bytes _ _]) _ _ _); (refine type_bytes ?_))
  k_with "m:call builtin:issubclass" => (k_here; (show wpAny _ _ (call (Value.builtin "issubclass") [Value.type "bytes", Value.ref _]) _ _ _); k_dflt (refine' issub_N (by (k_asm)) (by (k_mem)) ?_))
  k_with "m:mine:news" => first | assumption | (refine cb_drop (by assumption) ?_; intro p hp; repeat (first | exact hp | refine List.mem_cons_of_mem _ ?_))
  k_with "m:mine:size" => first | omega | (simp only [Array.size_append, List.size_toArray, List.length_cons, List.length_nil] at *; omega)
  k_with "m:getMethod bytes" => (k_here; (with_reducible first | refine meth FB.slot_bytes_startswith FB.type_bytes_startswith ?_ | refine meth FB.slot_bytes_endswith FB.type_bytes_endswith ?_ | refine meth slot_rfind type_rfind ?_ | refine meth slot_rstrip type_rstrip ?_ | refine meth slot_split type_split ?_ | refine meth slot_join type_join ?_))
  k_with "m:call builtin:bytes.startswith" => (k_here; (show wpAny _ _ (call (Value.builtin "bytes.startswith") [Value.bytes _ _, Value.bytes _ _]) _ _ _); (refine call_starts ?_))
  k_with "m:call builtin:bytes.endswith" => (k_here; (show wpAny _ _ (call (Value.builtin "bytes.endswith") [Value.bytes _ _, Value.bytes _ _]) _ _ _); (refine call_ends ?_))
  k_with "m:call builtin:bytes.rfind" => (k_here; (show wpAny _ _ (call (Value.builtin "bytes.rfind") [Value.bytes _ _, Value.bytes _ _]) _ _ _); (refine call_rfind ?_))
  k_with "m:call builtin:bytes.rstrip" => (k_here; (show wpAny _ _ (call (Value.builtin "bytes.rstrip") [Value.bytes _ _, Value.bytes _ _]) _ _ _); (refine call_rstrip (by walk_at "mine:size") ?_); intro _ _)
  k_with "m:truthy bytes" => (k_here; (with_reducible show wpAny _ _ (truthy (Value.bytes _ _)) _ _ _); (refine truthy_bytes (by walk_at "mine:size") ?_))
  k_with "m:call builtin:len" => (k_here; (show wpAny _ _ (call (Value.builtin "len") [Value.bytes _ _]) _ _ _); (refine len_bytes (by walk_at "mine:size") ?_))
  k_with "m:subscriptTail" => (k_here; (with_reducible show wpAny _ _ (subscriptTail _ (Expr.Slice _ _ none _) (Value.bytes _ _) (Value.ref _)) _ _ _); (with_reducible rename Fr _ _ _ _ => F'); (with_reducible rename News _ _ _ _ => N'); (refine slice_B (s := ⟨_, _, _, _, _⟩) F' N' (by constructor) (by constructor) (by walk_at "mine:size") ?_); intro _ _ _ F' N' hsz')
  k_with "m:binaryOp Mult bytes int" => (k_here; (with_reducible show wpAny _ _ (binaryOp Operator.Mult (Value.bytes _ _) (Value.int _ _)) _ _ _); (refine mul_one (by omega) (by walk_at "mine:size") ?_); intro _ _)
  k_with "m:binaryOp Add bytes bytes" => (k_here; (with_reducible show wpAny _ _ (binaryOp Operator.Add (Value.bytes _ _) (Value.bytes _ _)) _ _ _); (refine KBy.add_bytes (by walk_at "mine:size") ?_); intro _ _)
  k_with "m:compareOp NotEq bytes bytes" => (k_here; (refine ne_bytes ?_))
  k_with "m:compareOp Eq bytes bytes" => (k_here; (refine eq_bytes ?_))
  k_with "m:exec Try" => (k_here; (refine Try_calm ?_))
  k_with "m:mine:passes_own" => exact fun _ _ h => (show False from h).elim
  k_with "m:inplaceOp Add" => (k_here; (with_reducible show wpAny _ _ (inplaceOp Operator.Add (Value.bytes _ _) (Value.bytes _ _)) _ _ _); (refine iadd_bytes (by walk_at "mine:size") ?_); intro _ _)
  k_with "m:call builtin:bytes.split" => (k_here; (show wpAny _ _ (call (Value.builtin "bytes.split") [Value.bytes _ _, Value.bytes _ _]) _ _ _); k_dflt (refine' call_split1 (by (k_asm)) (by (k_asm)) (by (walk_at "mine:size")) ?_); intro l' h' vs' k' hv' hn' F' N' l1'; (try dsimp only))
  k_with "m:call builtin:len" => (k_here; (show wpAny _ _ (call (Value.builtin "len") [Value.ref _]) _ _ _); k_dflt (refine' len_L (by (k_asm)) (by (k_mem)) (by (omega)) ?_); intro _ _)
  k_with "m:mine:at" => with_reducible (first | exact At.here | assumption | exact At.skip (by decide) (by walk_at "mine:at"))
  k_with "m:eval Name" => (k_here; (with_reducible fail_if_success show wpAny _ _ (eval _ (compEnvC _ _ _ _)) _ _ _); (with_reducible fail_if_success show wpAny _ _ (eval _ (compEnv _ _ _)) _ _ _); (with_reducible fail_if_success show wpAny _ _ (eval _ (envOfC _ _ _ _ _)) _ _ _); (with_reducible rename At _ _ _ => hAt'); k_dflt (refine' ld (by (k_asm)) (by (change At _ _ _; walk_at "mine:at")) ?_))
  k_with "m:loadName" => (k_here; (with_reducible fail_if_success show wpAny _ _ (loadName (envOfC _ _ _ _ _) _) _ _ _); (with_reducible rename At _ _ _ => hAt'); k_dflt (refine' ldn (by (k_asm)) (by (change At _ _ _; walk_at "mine:at")) ?_))
  k_with "m:subscriptTail" => (k_here; (with_reducible show wpAny _ _ (subscriptTail _ _ (Value.ref _) (Value.int (-1) _)) _ _ _); k_dflt (refine' item_last (by (k_asm)) (by (k_mem)) ?_))
  k_with "m:call ref" => (k_here; (with_reducible show wpAny _ _ (call (Value.ref 94) [Value.bytes _ _]) _ _ _); k_dflt (refine' Claim.use (fspath_ok _ _) (by (k_asm)) (by (k_asm)) (by (k_asm)) (by (k_asm)) (by (k_asm)) (by (first | exact rfl | assumption)) (by (ktr_room)) (by (ktr_units)) ?_); intro v h' tk' hv F' N'; subst hv; (try dsimp only); (try k_fold))
  k_with "m:call ref" => (k_here; (with_reducible show wpAny _ _ (call (Value.ref 108) [Value.bytes _ _]) _ _ _); k_dflt (refine' Claim.use (get_sep_ok _ _) (by (k_asm)) (by (k_asm)) (by (k_asm)) (by (k_asm)) (by (k_asm)) (by (first | exact rfl | assumption)) (by (ktr_room)) (by (ktr_units)) ?_); intro v h' tk' hv F' N'; (obtain ⟨t9, hv⟩ := hv); subst hv; (try dsimp only); (try k_fold))
  k_with "m:call ref" => (k_here; (with_reducible show wpAny _ _ (call (Value.ref 122) [Value.bytes _ _]) _ _ _); k_dflt (refine' Claim.use (dirname_ok _ _ (by (walk_at "mine:size"))) (by (k_asm)) (by (k_asm)) (by (k_asm)) (by (k_asm)) (by (k_asm)) (by (first | exact rfl | assumption)) (by (ktr_room)) (by (ktr_units)) ?_); intro v h' tk' hv F' N'; (obtain ⟨t9, hv⟩ := hv); subst hv; (try dsimp only); (try k_fold))
  k_with "m:mine:k_all" => ((with_reducible rename Lts _ _ => hL8); exact Lts.ne hL8 (by omega))
  k_with "m:call type:map" => (k_here; (show wpAny _ _ (call (Value.type "map") [Value.ref _, Value.ref _]) _ _ _); k_dflt (refine' feed_new (by (k_asm)) (by (k_asm)) (by (k_mem)) ?_); intro h' M' T' It' F' N' Ma'; (try dsimp only))
  k_with "m:call type:tuple" => (k_here; (show wpAny _ _ (call (Value.type "tuple") [Value.ref _]) _ _ _); k_dflt (refine' call_tuple_map (.cons (.cons .nil)) fspath_ok (by (k_asm)) (by (k_asm)) (by (k_asm)) (by (first | exact rfl | assumption)) (by (k_mem)) (by (ktr_room)) (by (ktr_units)) (by (exact Nat.le_of_ble_eq_true rfl)) Ma' ?_); intro t' h' tk' F' N' l1'; (try k_lt l1'); (try dsimp only); (try k_fold))
  k_with "m:exec Assign cons ListComp" => refine Stop.go ?_
  k_with "m:assign Tuple" => (k_here; (with_reducible show wpAny _ _ (assign (Expr.Tuple [Expr.Name _ _] _ _) _ (Value.ref _)) _ _ _); k_dflt (refine' assign_set1 rfl rfl (by (k_asm)) (by (k_asm)) (by (k_mem)) ?_); intro h' F' N'; (try dsimp only))
  k_with "m:eval Name" => (k_here; (with_reducible fail_if_success show wpAny _ _ (eval _ (compEnvC _ _ _ _)) _ _ _); (with_reducible fail_if_success show wpAny _ _ (eval _ (compEnv _ _ _)) _ _ _); (with_reducible rename At _ _ _ => hAt'); k_dflt (refine' nameX_L (by (k_asm)) (by (change At _ _ _; walk_at "mine:at")) ?_ (by (rfl)) (by (rfl))))
  k_with "m:exec For Tuple Call" => refine Stop.go ?_
  k_with "m:call builtin:min" => refine Stop.go ?_
  k_with "m:call builtin:max" => refine Stop.go ?_
  k_with "m:mine:mem" => first | k_mem | (with_reducible assumption) | (refine List.mem_cons_of_mem _ ?_; walk_at "mine:mem")
  k_with "m:subscriptTail" => (k_here; (with_reducible show wpAny _ _ (subscriptTail _ _ (Value.ref _) (Value.int _ _)) _ _ _); k_dflt (refine' item_L (by (k_asm)) (by (walk_at "mine:mem")) (by (omega)) (by (omega)) (by (with_reducible assumption)) ?_))
  k_with "m:subscriptTail" => (k_here; (with_reducible show wpAny _ _ (subscriptTail _ (Expr.Slice _ _ none _) (Value.ref _) (Value.ref _)) _ _ _); (with_reducible rename Fr _ _ _ _ => F'); (with_reducible rename News _ _ _ _ => N'); k_dflt (refine' slice_LL (s := ⟨_, _, _, _, _⟩) F' N' (by (walk_at "mine:mem")) (by (constructor)) (by (constructor)) (by (omega)) ?_); intro D' h' F' N' l1'; (try simp only [pick_upto] at N'); (try dsimp only))
  k_with "m:call builtin:bytes.join" => (k_here; (show wpAny _ _ (call (Value.builtin "bytes.join") [Value.bytes _ _, Value.ref _]) _ _ _); k_dflt (refine' call_joinN (by (k_asm)) (by (walk_at "mine:mem")) (by (first | assumption | solve_by_elim)) (by (exact Nat.le_of_ble_eq_true rfl)) (by (with_reducible assumption)) ?_); intro _ _; (try dsimp only))
  k_with "m:call type:enumerate" => (k_here; (show wpAny _ _ (call (Value.type "enumerate") [Value.ref _]) _ _ _); k_dflt (refine' call_enum_K (by (k_asm)) (by (k_asm)) (by (walk_at "mine:mem")) ?_); intro _ _ hEn'; (try dsimp only at hEn' ⊢))
  trivial
section
set_option maxRecDepth 100000 in
set_option maxHeartbeats 8000000 in
theorem common_ok (b c : Array UInt8) (t u : Tok) (la : Addr) (hb : b.size ≤ 1000) (hc : c.size ≤ 1000) (hsb : startsRaw b #[47] = false) (hsc : startsRaw c #[47] = false) :
  ∀ (w : World) (p : Place) (news : List (Addr × Obj)) (s : Shared) (Q E : PySem.Value → Shared → Prop), p.Sound (Mine.lawK w.params) ((la, listOf [PySem.Value.bytes b t, PySem.Value.bytes c u].toArray 0) :: news) s 5 40 →
    (∀ v h tk, (∃ t', v = .bytes (Builtin.Bytes.joined #[47] (commonRaw b c)) t') → Fr p.first p.own h p.vars → News p.first p.own h ((la, listOf [PySem.Value.bytes b t, PySem.Value.bytes c u].toArray 0) :: news) → Q v { s with heap := h, toks := tk }) →
    wpAny (model PySem.Challenge.rw_pd0128_01.row.prog w) p.around (call (.ref 127) [.ref la]) Q E s := by
  k_fill
  rintro w ⟨mean, mg, mb, dp, un, gd, cn, cs, a, ccd, cl, outer, A₀, base, h₀, L, m⟩ news s Q E ⟨⟨B, X, T, hk, hd, hu⟩, F, N⟩ hret
  dsimp only [Place.around] at *
  refine wpAny_call ?_
  k_dflt (refine code_defC B F X N T rfl rfl hk (by k_is) (by k_is) (by ktr_room) (BindsTo.of_eq rfl) rfl (by decide +kernel) ?_ rfl rfl rfl)
  k_whole
  intro g' L' h' tk' cells' FG' F' N' Y' B' X' T' l1
  have hL9 := (Lts.mk' l1).drop
  try k_lt l1
  k_cells Y'
  simp only [List.cons_append, List.nil_append] at N'
  try dsimp only
  try k_lift B'
  try k_fold
  k_steps
  (with_reducible rename Fr _ _ _ _ => F₁)
  (with_reducible rename News _ _ _ _ => N₁)
  refine wpP.any (Assign_LC every_kept (by rfl) (by with_unfolding_all rfl) rfl (by decide) ?src)
  refine wpP.of_any ?_
  k_steps
  refine comp_tup2 every_kept rfl (by decide) rfl (by rfl) F₁ N₁ (by k_mem) ?_
  intro h₂ tk₂ I oI C oC D m₂ off ne hoC hm₂ F₂ N₂
  refine Tests_nil ?_
  rw [if_pos rfl]
  refine wpP.of_any ?_
  k_steps
  refine CEnd.intro1 (by assumption) (by assumption) (by assumption) off ⟨Nat.le_of_ble_eq_true rfl, by k_mem, ?_⟩
  clear F₁ N₁ F₂ N₂
  intro h₂ tk₂ I oI C oC D m₂ off ne hoC hm₂ F₂ N₂
  refine Tests_nil ?_
  rw [if_pos rfl]
  refine wpP.of_any ?_
  k_steps
  refine CEnd.intro1 (by assumption) (by assumption) (by assumption) off ⟨Nat.le_of_ble_eq_true rfl, by k_mem, ?_⟩
  clear F₂ N₂
  refine' CFin.assignQ ?e1 ?e2 ?e3 ?_
  case e1 => rfl
  case e2 => rfl
  case e3 => rfl
  intro D h₂ tk₂ F₂ N₂ off
  k_steps
  (with_reducible rename Fr _ _ _ _ => F₁)
  (with_reducible rename News _ _ _ _ => N₁)
  refine wpP.any (eval_SC every_kept (by with_unfolding_all rfl) rfl (by decide) ?srcS)
  refine wpP.of_any ?_
  k_steps
  refine comp_setF every_kept rfl (by decide) rfl (by rfl) F₁ N₁ (by k_mem) (by simp) ?turnS ?finS
  case turnS =>
    intro v hv h₂ tk₂ I oI C oC D oD m₂ off ne hoC hm₂ F₂ N₂
    clear F₁ N₁
    simp only [List.mem_cons, List.not_mem_nil, or_false] at hv
    rcases hv with rfl | rfl
    · refine wpP.of_any ?_
      k_steps
      exact SEnd.intro (by rw [hsb]) (by assumption) (by assumption)
    · refine wpP.of_any ?_
      k_steps
      exact SEnd.intro (by rw [hsc]) (by assumption) (by assumption)
  clear F₁ N₁
  intro D h₂ tk₂ F₂ N₂ off
  k_steps
  (with_reducible rename Fr _ _ _ _ => F₁)
  (with_reducible rename News _ _ _ _ => N₁)
  (with_reducible rename BytesAre _ (splitRaw b _) => hvB)
  (with_reducible rename BytesAre _ (splitRaw c _) => hvC)
  refine wpP.any (Assign_LC every_kept (by rfl) (by with_unfolding_all rfl) rfl (by decide) ?src2)
  refine wpP.of_any ?_
  k_steps
  refine comp_lst2 every_kept rfl (by decide) rfl (by rfl) F₁ N₁ (by k_mem) ?_
  intro h₃ tk₃ I oI C oC D₃ m₂ off₃ ne hoC hm₂ F₃ N₃
  refine Tests_nil ?_
  rw [if_pos rfl]
  refine eval_LC every_kept (by with_unfolding_all rfl) rfl (by decide) ?srcI
  refine wpP.of_any ?_
  k_steps
  refine' comp_lst every_kept rfl (by decide) rfl (by rfl) F₃ N₃ ?km (by have := @split_len b #[47]; rw [hvB.length]; omega) (InnerJ _ (splitRaw b #[47])) ?hkeep (fun _ _ _ h => h.len) ?h0 ?turn ?fin
  case km => k_mem
  case h0 => exact InnerJ.start
  case hkeep => intro i ys nw h; rw [h.1]; k_mem
  case turn =>
    intro i v ys nw hv hJ
    obtain ⟨x, tx, rfl, hx⟩ := hvB.getV hv
    obtain rfl := hJ.1
    have hxz : x.size ≤ 1000 := Nat.le_trans (split_size (List.mem_of_getElem? hx)) hb
    clear F₁ N₁ F₃ N₃
    intro h₄ tk₄ I₄ oI₄ C₄ oC₄ D₄ m₄ off₄ ne₄ hoC₄ hm₄ F₄ N₄
    refine Tests_one ?_
    refine wpP.of_any ?_
    k_steps
    · refine wpP.of_any ?_
      k_steps
      exact CEnd.intro0 (by assumption) (by assumption) off₄ (hJ.keep hx (keepB_yes (by assumption) (by assumption)))
    · exact CEnd.intro0 (by assumption) (by assumption) off₄ (hJ.drop hx (keepB_dot (ne_true_of_eq_false (by assumption))))
    · exact CEnd.intro0 (by assumption) (by assumption) off₄ (hJ.drop hx (keepB_empty (by assumption)))
  intro ys nw hJ
  obtain ⟨rfl, khvB⟩ := hJ.fin hvB
  clear hJ F₁ N₁ F₃ N₃
  refine CFin.eval ?_
  intro D₅ h₅ tk₅ F₅ N₅ off₅
  refine CEnd.intro2 F₅ N₅ off₅ off₃ ⟨Nat.le_of_ble_eq_true rfl, by k_mem, ?_⟩
  clear F₅ N₅ hoC
  intro h₃ tk₃ I oI C oC D₃ m₂ off₃ ne hoC hm₂ F₃ N₃
  refine Tests_nil ?_
  rw [if_pos rfl]
  refine eval_LC every_kept (by with_unfolding_all rfl) rfl (by decide) ?srcIZ
  refine wpP.of_any ?_
  k_steps
  refine' comp_lst every_kept rfl (by decide) rfl (by rfl) F₃ N₃ ?kmZ (by have := @split_len c #[47]; rw [hvC.length]; omega) (InnerJ _ (splitRaw c #[47])) ?hkeepZ (fun _ _ _ h => h.len) ?h0Z ?turnZ ?finZ
  case kmZ => k_mem
  case h0Z => exact InnerJ.start
  case hkeepZ => intro i ys nw h; rw [h.1]; k_mem
  case turnZ =>
    intro i v ys nw hv hJ
    obtain ⟨x, tx, rfl, hx⟩ := hvC.getV hv
    obtain rfl := hJ.1
    have hxz : x.size ≤ 1000 := Nat.le_trans (split_size (List.mem_of_getElem? hx)) hc
    clear F₃ N₃
    intro h₄ tk₄ I₄ oI₄ C₄ oC₄ D₄ m₄ off₄ ne₄ hoC₄ hm₄ F₄ N₄
    refine Tests_one ?_
    refine wpP.of_any ?_
    k_steps
    · refine wpP.of_any ?_
      k_steps
      exact CEnd.intro0 (by assumption) (by assumption) off₄ (hJ.keep hx (keepB_yes (by assumption) (by assumption)))
    · exact CEnd.intro0 (by assumption) (by assumption) off₄ (hJ.drop hx (keepB_dot (ne_true_of_eq_false (by assumption))))
    · exact CEnd.intro0 (by assumption) (by assumption) off₄ (hJ.drop hx (keepB_empty (by assumption)))
  intro ys nw hJ
  obtain ⟨rfl, khvC⟩ := hJ.fin hvC
  clear hJ F₃ N₃
  refine CFin.eval ?_
  intro D₅ h₅ tk₅ F₅ N₅ off₅
  refine CEnd.intro2 F₅ N₅ off₅ off₃ ⟨Nat.le_of_ble_eq_true rfl, by k_mem, ?_⟩
  clear F₅ N₅ hoC
  refine' CFin.assignQ ?e1Z ?e2Z ?e3Z ?_
  case e1Z => rfl
  case e2Z => rfl
  case e3Z => rfl
  intro D₅ h₅ tk₅ F₅ N₅ off₅
  k_steps
  (with_reducible rename Fr _ _ _ _ => F₁)
  (with_reducible rename News _ _ _ _ => N₁)
  delta Stop
  refine' call_min2' rfl ?hrm khvB khvC F₁ N₁ ?mm ?mp ?mq ?_
  case hrm => ktr_units
  case mm => k_mem
  case mp => k_mem
  case mq => k_mem
  intro h₆ r1 v1 n1 x1 hm1 hv1 hx1 F₆ N₆
  dsimp only
  k_steps
  (with_reducible rename Fr _ _ _ _ => F₁)
  (with_reducible rename News _ _ _ _ => N₁)
  delta Stop
  refine' call_max2' rfl ?hrm2 khvB khvC F₁ N₁ ?mm2 ?mp2 ?mq2 ?_
  case hrm2 => ktr_units
  case mm2 => k_mem
  case mp2 => k_mem
  case mq2 => k_mem
  intro h₇ r2 v2 n2 x2 hm2 hv2 hx2 F₇ N₇
  dsimp only
  k_steps
  (with_reducible rename Fr _ _ _ _ => F₁)
  (with_reducible rename News _ _ _ _ => N₁)
  obtain ⟨hOrd, hLcp⟩ := minmax hx1 hx2
  have hz0 := (@common_small b c hb)
  have hpk : KBy.picked #[47] none (some 0) = #[] := by rfl
  have hpk0 : (KBy.picked #[47] none (some 0)).size = 0 := by rw [hpk]; rfl
  have hjs : (Builtin.Bytes.joined #[47] (commonRaw b c)).size ≤ 16777216 := joined_size (by decide) hz0.1 hz0.2
  have hz1 : v1.length ≤ 1000000 := by
    rw [hv1.length, hx1]
    split
    · have := List.length_filter_le keepB (splitRaw c #[47])
      have := @split_len c #[47]
      omega
    · have := List.length_filter_le keepB (splitRaw b #[47])
      have := @split_len b #[47]
      omega
  clear hx1 hx2
  refine' wpP.any (For_enum every_kept rfl rfl rfl rfl rfl N₁ ?hmE ?srcE (LoopJ _ r1 r2 x1 x2) ?hkE ?h0E ?turnE ?finE)
  case hmE => walk_at "mine:mem"
  case srcE =>
    k_steps
    assumption
  case h0E =>
    refine LoopJ.start ?_ ?_ ?_ ?_
    all_goals exact rfl
  case hkE => intro i m' nw hJ; rw [hJ.2.2.2.2.1]; walk_at "mine:mem"
  case turnE =>
    intro i v ti m₈ nw h₈ tk₈ e it oe oit hv hJ off F₈ N₈
    obtain ⟨a1, a2, a3, a4, rfl, hT⟩ := hJ
    obtain ⟨x, tx, rfl, hx⟩ := hv1.getV hv
    obtain ⟨hi1, hxe⟩ := List.getElem?_eq_some_iff.mp hx
    have hi2 := hOrd i hT hi1
    obtain ⟨ty, hy⟩ := hv2.get (List.getElem?_eq_getElem hi2)
    have hy' : v2[((i : Nat) : Int).toNat]? = some (PySem.Value.bytes x2[i] ty) := by simpa using hy
    have hi3 : i ≤ 1000000 := by rw [hv1.length] at hz1; omega
    have hBx : (x.toList != x2[i].toList) = true → BytesAre (v1.take i) (commonRaw b c) := fun q => by
      have := lcp_at x1 x2 i hT hi1 hi2 (by rw [hxe]; exact toList_ne_of q)
      rw [hLcp] at this
      unfold commonRaw
      rw [this]
      exact hv1.take i
    clear F₁ N₁
    refine wpP.of_any ?_
    k_steps
    · refine hret _ _ _ ⟨_, congrArg (PySem.Value.bytes · _) ?_⟩ ?_ ?_
      · rw [hpk, Array.empty_append]
      · assumption
      · walk_at "mine:news"
    · dsimp only
      refine TurnEnd2.intro (by assumption) (by assumption) off ⟨At.skip (by decide) (At.skip (by decide) (by assumption)), At.skip (by decide) (At.skip (by decide) (by assumption)), At.skip (by decide) (At.skip (by decide) (by assumption)), At.skip (by decide) (At.skip (by decide) (by assumption)), rfl, take_same hT hi1 hi2 (by rw [hxe]; exact toList_eq_of (by assumption))⟩
  case finE =>
    intro h₈ tk₈ m₈ nw F₈ N₈ hJ
    obtain ⟨a1, a2, a3, a4, rfl, hT⟩ := hJ
    have hBx : BytesAre v1 (commonRaw b c) := by
      have := lcp_all x1 x2 (by rw [hv1.length] at hT; exact hT)
      rw [hLcp] at this
      unfold commonRaw
      rw [this]
      exact hv1
    clear F₁ N₁
    k_steps
    refine hret _ _ _ ⟨_, congrArg (PySem.Value.bytes · _) ?_⟩ ?_ ?_
    · rw [hpk, Array.empty_append]
    · assumption
    · walk_at "mine:news"
end
theorem rules_C7 : True := by
  k_with_none
  k_with "m:call type:type" => (k_here; (with_reducible show wpAny _ _ (call (Value.type "type") [Value.bytes _ _]) _ _ _); (refine type_bytes ?_))
  k_with "m:call builtin:issubclass" => (k_here; (show wpAny _ _ (call (Value.builtin "issubclass") [Value.type "bytes", Value.ref _]) _ _ _); k_dflt (refine' issub_N (by (k_asm)) (by (k_mem)) ?_))
  k_with "m:mine:news" => first | assumption | (refine cb_drop (by assumption) ?_; intro p hp; repeat (first | exact hp | refine List.mem_cons_of_mem _ ?_))
  k_with "m:mine:size" => first | omega | (simp only [Array.size_append, List.size_toArray, List.length_cons, List.length_nil] at *; omega)
  k_with "m:getMethod bytes" => (k_here; (with_reducible first | refine meth FB.slot_bytes_startswith FB.type_bytes_startswith ?_ | refine meth FB.slot_bytes_endswith FB.type_bytes_endswith ?_ | refine meth slot_rfind type_rfind ?_ | refine meth slot_rstrip type_rstrip ?_ | refine meth slot_split type_split ?_ | refine meth slot_join type_join ?_))
  k_with "m:call builtin:bytes.startswith" => (k_here; (show wpAny _ _ (call (Value.builtin "bytes.startswith") [Value.bytes _ _, Value.bytes _ _]) _ _ _); (refine call_starts ?_))
  k_with "m:call builtin:bytes.endswith" => (k_here; (show wpAny _ _ (call (Value.builtin "bytes.endswith") [Value.bytes _ _, Value.bytes _ _]) _ _ _); (refine call_ends ?_))
  k_with "m:call builtin:bytes.rfind" => (k_here; (show wpAny _ _ (call (Value.builtin "bytes.rfind") [Value.bytes _ _, Value.bytes _ _]) _ _ _); (refine call_rfind ?_))
  k_with "m:call builtin:bytes.rstrip" => (k_here; (show wpAny _ _ (call (Value.builtin "bytes.rstrip") [Value.bytes _ _, Value.bytes _ _]) _ _ _); (refine call_rstrip (by walk_at "mine:size") ?_); intro _ _)
  k_with "m:truthy bytes" => (k_here; (with_reducible show wpAny _ _ (truthy (Value.bytes _ _)) _ _ _); (refine truthy_bytes (by walk_at "mine:size") ?_))
  k_with "m:call builtin:len" => (k_here; (show wpAny _ _ (call (Value.builtin "len") [Value.bytes _ _]) _ _ _); (refine len_bytes (by walk_at "mine:size") ?_))
  k_with "m:subscriptTail" => (k_here; (with_reducible show wpAny _ _ (subscriptTail _ (Expr.Slice _ _ none _) (Value.bytes _ _) (Value.ref _)) _ _ _); (with_reducible rename Fr _ _ _ _ => F'); (with_reducible rename News _ _ _ _ => N'); (refine slice_B (s := ⟨_, _, _, _, _⟩) F' N' (by constructor) (by constructor) (by walk_at "mine:size") ?_); intro _ _ _ F' N' hsz')
  k_with "m:binaryOp Mult bytes int" => (k_here; (with_reducible show wpAny _ _ (binaryOp Operator.Mult (Value.bytes _ _) (Value.int _ _)) _ _ _); (refine mul_one (by omega) (by walk_at "mine:size") ?_); intro _ _)
  k_with "m:binaryOp Add bytes bytes" => (k_here; (with_reducible show wpAny _ _ (binaryOp Operator.Add (Value.bytes _ _) (Value.bytes _ _)) _ _ _); (refine KBy.add_bytes (by walk_at "mine:size") ?_); intro _ _)
  k_with "m:compareOp NotEq bytes bytes" => (k_here; (refine ne_bytes ?_))
  k_with "m:compareOp Eq bytes bytes" => (k_here; (refine eq_bytes ?_))
  k_with "m:exec Try" => (k_here; (refine Try_calm ?_))
  k_with "m:mine:passes_own" => exact fun _ _ h => (show False from h).elim
  k_with "m:inplaceOp Add" => (k_here; (with_reducible show wpAny _ _ (inplaceOp Operator.Add (Value.bytes _ _) (Value.bytes _ _)) _ _ _); (refine iadd_bytes (by walk_at "mine:size") ?_); intro _ _)
  k_with "m:call builtin:bytes.split" => (k_here; (show wpAny _ _ (call (Value.builtin "bytes.split") [Value.bytes _ _, Value.bytes _ _]) _ _ _); k_dflt (refine' call_split1 (by (k_asm)) (by (k_asm)) (by (walk_at "mine:size")) ?_); intro l' h' vs' k' hv' hn' F' N' l1'; (try dsimp only))
  k_with "m:call builtin:len" => (k_here; (show wpAny _ _ (call (Value.builtin "len") [Value.ref _]) _ _ _); k_dflt (refine' len_L (by (k_asm)) (by (k_mem)) (by (omega)) ?_); intro _ _)
  k_with "m:mine:at" => with_reducible (first | exact At.here | assumption | exact At.skip (by decide) (by walk_at "mine:at"))
  k_with "m:eval Name" => (k_here; (with_reducible fail_if_success show wpAny _ _ (eval _ (compEnvC _ _ _ _)) _ _ _); (with_reducible fail_if_success show wpAny _ _ (eval _ (compEnv _ _ _)) _ _ _); (with_reducible fail_if_success show wpAny _ _ (eval _ (envOfC _ _ _ _ _)) _ _ _); (with_reducible rename At _ _ _ => hAt'); k_dflt (refine' ld (by (k_asm)) (by (change At _ _ _; walk_at "mine:at")) ?_))
  k_with "m:loadName" => (k_here; (with_reducible fail_if_success show wpAny _ _ (loadName (envOfC _ _ _ _ _) _) _ _ _); (with_reducible rename At _ _ _ => hAt'); k_dflt (refine' ldn (by (k_asm)) (by (change At _ _ _; walk_at "mine:at")) ?_))
  k_with "m:subscriptTail" => (k_here; (with_reducible show wpAny _ _ (subscriptTail _ _ (Value.ref _) (Value.int (-1) _)) _ _ _); k_dflt (refine' item_last (by (k_asm)) (by (k_mem)) ?_))
  k_with "m:call ref" => (k_here; (with_reducible show wpAny _ _ (call (Value.ref 94) [Value.bytes _ _]) _ _ _); k_dflt (refine' Claim.use (fspath_ok _ _) (by (k_asm)) (by (k_asm)) (by (k_asm)) (by (k_asm)) (by (k_asm)) (by (first | exact rfl | assumption)) (by (ktr_room)) (by (ktr_units)) ?_); intro v h' tk' hv F' N'; subst hv; (try dsimp only); (try k_fold))
  k_with "m:call ref" => (k_here; (with_reducible show wpAny _ _ (call (Value.ref 108) [Value.bytes _ _]) _ _ _); k_dflt (refine' Claim.use (get_sep_ok _ _) (by (k_asm)) (by (k_asm)) (by (k_asm)) (by (k_asm)) (by (k_asm)) (by (first | exact rfl | assumption)) (by (ktr_room)) (by (ktr_units)) ?_); intro v h' tk' hv F' N'; (obtain ⟨t9, hv⟩ := hv); subst hv; (try dsimp only); (try k_fold))
  k_with "m:call ref" => (k_here; (with_reducible show wpAny _ _ (call (Value.ref 122) [Value.bytes _ _]) _ _ _); k_dflt (refine' Claim.use (dirname_ok _ _ (by (walk_at "mine:size"))) (by (k_asm)) (by (k_asm)) (by (k_asm)) (by (k_asm)) (by (k_asm)) (by (first | exact rfl | assumption)) (by (ktr_room)) (by (ktr_units)) ?_); intro v h' tk' hv F' N'; (obtain ⟨t9, hv⟩ := hv); subst hv; (try dsimp only); (try k_fold))
  k_with "m:call ref" => (k_here; (with_reducible show wpAny _ _ (call (Value.ref 127) [Value.ref _]) _ _ _); k_dflt (refine' common_use (by (k_asm)) (by (k_asm)) (by (k_asm)) (by (k_asm)) (by (k_asm)) (by (first | exact rfl | assumption)) (by (walk_at "mine:size")) (by (walk_at "mine:size")) (by (assumption)) (by (assumption)) (by (ktr_room)) (by (ktr_units)) ?_); intro v h' tk' hv F' N'; (obtain ⟨t9, hv⟩ := hv); subst hv; (try dsimp only); (try k_fold))
  k_with "m:mine:k_all" => ((with_reducible rename Lts _ _ => hL8); exact Lts.ne hL8 (by omega))
  k_with "m:mine:mem" => first | k_mem | (with_reducible assumption) | (refine List.mem_cons_of_mem _ ?_; walk_at "mine:mem")
  k_with "m:call builtin:bytes.join" => (k_here; (show wpAny _ _ (call (Value.builtin "bytes.join") [Value.bytes _ _, Value.ref _]) _ _ _); k_dflt (refine' call_joinN (by (k_asm)) (by (walk_at "mine:mem")) (by (with_reducible assumption)) (by (exact Nat.le_of_ble_eq_true rfl)) (by (with_reducible assumption)) ?_); intro _ _; (try dsimp only))
  trivial
theorem common_use {b c : Array UInt8} {t u : Tok} {la : Addr}
  {w : World} {mean : ExcName → Option PySem.Value} {mg mb : Str → Option PySem.Value} {news : List (Addr × Obj)} {dp un : Nat} {gd : Option (List Code)} {cn : Str} {cs : Scope} {a : Addr} {ccd : PySem.Value} {cl : List (Str × Addr)} {outer : List Env} {A₀ : Around} {base h₀ : Heap} {L : Addr} {m : Str → Option PySem.Value} {s : Shared} {Q E : PySem.Value → Shared → Prop}
    (B : Below A₀ base outer h₀) (F : Fr h₀ L s.heap m) (X : (Mine.lawK w.params).In h₀) (N : News h₀ L s.heap ((la, listOf [PySem.Value.bytes b t, PySem.Value.bytes c u].toArray 0) :: news)) (T : Top Mine.hd.view_1_2 (looseW Mine.hd.view_1_2 []) mean mg mb h₀) (hk : cs.kind = .function)
    (hb : b.size ≤ 1000) (hc : c.size ≤ 1000) (hsb : startsRaw b #[47] = false) (hsc : startsRaw c #[47] = false)
    (hd : dp + 5 < recursionLimit) (hu : un + 40 < cLine)
    (h : ∀ (v : PySem.Value) (h' : Heap) (tk' : Nat), (∃ t', v = .bytes (Builtin.Bytes.joined #[47] (commonRaw b c)) t') → Fr h₀ L h' m → News h₀ L h' ((la, listOf [PySem.Value.bytes b t, PySem.Value.bytes c u].toArray 0) :: news) → Q v { s with heap := h', toks := tk' }) :
    wpAny (model PySem.Challenge.rw_pd0128_01.row.prog w) (ktrTop dp un gd cn cs L a ccd cl outer) (call (.ref 127) [.ref la]) Q E s :=
  common_ok b c t u la hb hc hsb hsc w ⟨mean, mg, mb, dp, un, gd, cn, cs, a, ccd, cl, outer, A₀, base, h₀, L, m⟩ news s Q E ⟨⟨B, X, T, hk, hd, hu⟩, F, N⟩ h
/-- what _law_shared gives -/
noncomputable def sharedRaw (b c : Array UInt8) : Array UInt8 := Builtin.Bytes.joined #[47] (commonRaw (Builtin.Bytes.joined #[47, 47] (splitRaw b #[47])) (Builtin.Bytes.joined #[47, 46, 47] (splitRaw c #[47])))
set_option maxRecDepth 100000 in
set_option maxHeartbeats 4000000 in
theorem shared_ok (b c : Array UInt8) (t u : Tok) (hb : b.size ≤ 100) (hc : c.size ≤ 100) (hjb : (Builtin.Bytes.joined #[47, 47] (splitRaw b #[47])).size ≤ 1000) (hjc : (Builtin.Bytes.joined #[47, 46, 47] (splitRaw c #[47])).size ≤ 1000)
    (hsb : startsRaw (Builtin.Bytes.joined #[47, 47] (splitRaw b #[47])) #[47] = false) (hsc : startsRaw (Builtin.Bytes.joined #[47, 46, 47] (splitRaw c #[47])) #[47] = false) :
    Claim 7 50 155 [.bytes b t, .bytes c u] (fun v => ∃ t', v = .bytes (sharedRaw b c) t') := by
  have hzb : (∀ x ∈ splitRaw b #[47], x.size ≤ 1000) ∧ (splitRaw b #[47]).length ≤ 1010 := ⟨fun x hx => Nat.le_trans (split_size hx) (by omega), by have := @split_len b #[47]; omega⟩
  have hzc : (∀ x ∈ splitRaw c #[47], x.size ≤ 1000) ∧ (splitRaw c #[47]).length ≤ 1010 := ⟨fun x hx => Nat.le_trans (split_size hx) (by omega), by have := @split_len c #[47]; omega⟩
  unfold Claim
  k_fill
  rintro w ⟨mean, mg, mb, dp, un, gd, cn, cs, a, ccd, cl, outer, A₀, base, h₀, L, m⟩ news s Q E ⟨⟨B, X, T, hk, hd, hu⟩, F, N⟩ hret
  dsimp only [Place.around] at *
  refine wpAny_call ?_
  k_dflt cell_enter
  k_steps
  all_goals (refine hret _ _ _ ⟨_, rfl⟩ ?f ?n; (case f => assumption); (case n => walk_at "mine:news"))
theorem rules_C8 : True := by
  k_with_none
  k_with "m:call type:type" => (k_here; (with_reducible show wpAny _ _ (call (Value.type "type") [Value.bytes _ _]) _ _ _); (refine type_bytes ?_))
  k_with "m:call builtin:issubclass" => (k_here; (show wpAny _ _ (call (Value.builtin "issubclass") [Value.type "bytes", Value.ref _]) _ _ _); k_dflt (refine' issub_N (by (k_asm)) (by (k_mem)) ?_))
  k_with "m:mine:news" => first | assumption | (refine cb_drop (by assumption) ?_; intro p hp; repeat (first | exact hp | refine List.mem_cons_of_mem _ ?_))
  k_with "m:mine:size" => first | omega | (simp only [Array.size_append, List.size_toArray, List.length_cons, List.length_nil] at *; omega)
  k_with "m:getMethod bytes" => (k_here; (with_reducible first | refine meth FB.slot_bytes_startswith FB.type_bytes_startswith ?_ | refine meth FB.slot_bytes_endswith FB.type_bytes_endswith ?_ | refine meth slot_rfind type_rfind ?_ | refine meth slot_rstrip type_rstrip ?_ | refine meth slot_split type_split ?_ | refine meth slot_join type_join ?_))
  k_with "m:call builtin:bytes.startswith" => (k_here; (show wpAny _ _ (call (Value.builtin "bytes.startswith") [Value.bytes _ _, Value.bytes _ _]) _ _ _); (refine call_starts ?_))
  k_with "m:call builtin:bytes.endswith" => (k_here; (show wpAny _ _ (call (Value.builtin "bytes.endswith") [Value.bytes _ _, Value.bytes _ _]) _ _ _); (refine call_ends ?_))
  k_with "m:call builtin:bytes.rfind" => (k_here; (show wpAny _ _ (call (Value.builtin "bytes.rfind") [Value.bytes _ _, Value.bytes _ _]) _ _ _); (refine call_rfind ?_))
  k_with "m:call builtin:bytes.rstrip" => (k_here; (show wpAny _ _ (call (Value.builtin "bytes.rstrip") [Value.bytes _ _, Value.bytes _ _]) _ _ _); (refine call_rstrip (by walk_at "mine:size") ?_); intro _ _)
  k_with "m:truthy bytes" => (k_here; (with_reducible show wpAny _ _ (truthy (Value.bytes _ _)) _ _ _); (refine truthy_bytes (by walk_at "mine:size") ?_))
  k_with "m:call builtin:len" => (k_here; (show wpAny _ _ (call (Value.builtin "len") [Value.bytes _ _]) _ _ _); (refine len_bytes (by walk_at "mine:size") ?_))
  k_with "m:subscriptTail" => (k_here; (with_reducible show wpAny _ _ (subscriptTail _ (Expr.Slice _ _ none _) (Value.bytes _ _) (Value.ref _)) _ _ _); (with_reducible rename Fr _ _ _ _ => F'); (with_reducible rename News _ _ _ _ => N'); (refine slice_B (s := ⟨_, _, _, _, _⟩) F' N' (by constructor) (by constructor) (by walk_at "mine:size") ?_); intro _ _ _ F' N' hsz')
  k_with "m:binaryOp Mult bytes int" => (k_here; (with_reducible show wpAny _ _ (binaryOp Operator.Mult (Value.bytes _ _) (Value.int _ _)) _ _ _); (refine mul_one (by omega) (by walk_at "mine:size") ?_); intro _ _)
  k_with "m:binaryOp Add bytes bytes" => (k_here; (with_reducible show wpAny _ _ (binaryOp Operator.Add (Value.bytes _ _) (Value.bytes _ _)) _ _ _); (refine KBy.add_bytes (by walk_at "mine:size") ?_); intro _ _)
  k_with "m:compareOp NotEq bytes bytes" => (k_here; (refine ne_bytes ?_))
  k_with "m:compareOp Eq bytes bytes" => (k_here; (refine eq_bytes ?_))
  k_with "m:exec Try" => (k_here; (refine Try_calm ?_))
  k_with "m:mine:passes_own" => exact fun _ _ h => (show False from h).elim
  k_with "m:inplaceOp Add" => (k_here; (with_reducible show wpAny _ _ (inplaceOp Operator.Add (Value.bytes _ _) (Value.bytes _ _)) _ _ _); (refine iadd_bytes (by walk_at "mine:size") ?_); intro _ _)
  k_with "m:call builtin:bytes.split" => (k_here; (show wpAny _ _ (call (Value.builtin "bytes.split") [Value.bytes _ _, Value.bytes _ _]) _ _ _); k_dflt (refine' call_split1 (by (k_asm)) (by (k_asm)) (by (walk_at "mine:size")) ?_); intro l' h' vs' k' hv' hn' F' N' l1'; (try dsimp only))
  k_with "m:call builtin:len" => (k_here; (show wpAny _ _ (call (Value.builtin "len") [Value.ref _]) _ _ _); k_dflt (refine' len_L (by (k_asm)) (by (k_mem)) (by (omega)) ?_); intro _ _)
  k_with "m:mine:at" => with_reducible (first | exact At.here | assumption | exact At.skip (by decide) (by walk_at "mine:at"))
  k_with "m:eval Name" => (k_here; (with_reducible fail_if_success show wpAny _ _ (eval _ (compEnvC _ _ _ _)) _ _ _); (with_reducible fail_if_success show wpAny _ _ (eval _ (compEnv _ _ _)) _ _ _); (with_reducible fail_if_success show wpAny _ _ (eval _ (envOfC _ _ _ _ _)) _ _ _); (with_reducible rename At _ _ _ => hAt'); k_dflt (refine' ld (by (k_asm)) (by (change At _ _ _; walk_at "mine:at")) ?_))
  k_with "m:loadName" => (k_here; (with_reducible fail_if_success show wpAny _ _ (loadName (envOfC _ _ _ _ _) _) _ _ _); (with_reducible rename At _ _ _ => hAt'); k_dflt (refine' ldn (by (k_asm)) (by (change At _ _ _; walk_at "mine:at")) ?_))
  k_with "m:subscriptTail" => (k_here; (with_reducible show wpAny _ _ (subscriptTail _ _ (Value.ref _) (Value.int (-1) _)) _ _ _); k_dflt (refine' item_last (by (k_asm)) (by (k_mem)) ?_))
  k_with "m:call ref" => (k_here; (with_reducible show wpAny _ _ (call (Value.ref 94) [Value.bytes _ _]) _ _ _); k_dflt (refine' Claim.use (fspath_ok _ _) (by (k_asm)) (by (k_asm)) (by (k_asm)) (by (k_asm)) (by (k_asm)) (by (first | exact rfl | assumption)) (by (ktr_room)) (by (ktr_units)) ?_); intro v h' tk' hv F' N'; subst hv; (try dsimp only); (try k_fold))
  k_with "m:call ref" => (k_here; (with_reducible show wpAny _ _ (call (Value.ref 108) [Value.bytes _ _]) _ _ _); k_dflt (refine' Claim.use (get_sep_ok _ _) (by (k_asm)) (by (k_asm)) (by (k_asm)) (by (k_asm)) (by (k_asm)) (by (first | exact rfl | assumption)) (by (ktr_room)) (by (ktr_units)) ?_); intro v h' tk' hv F' N'; (obtain ⟨t9, hv⟩ := hv); subst hv; (try dsimp only); (try k_fold))
  k_with "m:call ref" => (k_here; (with_reducible show wpAny _ _ (call (Value.ref 122) [Value.bytes _ _]) _ _ _); k_dflt (refine' Claim.use (dirname_ok _ _ (by (walk_at "mine:size"))) (by (k_asm)) (by (k_asm)) (by (k_asm)) (by (k_asm)) (by (k_asm)) (by (first | exact rfl | assumption)) (by (ktr_room)) (by (ktr_units)) ?_); intro v h' tk' hv F' N'; (obtain ⟨t9, hv⟩ := hv); subst hv; (try dsimp only); (try k_fold))
  k_with "m:call ref" => (k_here; (with_reducible show wpAny _ _ (call (Value.ref 127) [Value.ref _]) _ _ _); k_dflt (refine' common_use (by (k_asm)) (by (k_asm)) (by (k_asm)) (by (k_asm)) (by (k_asm)) (by (first | exact rfl | assumption)) (by (walk_at "mine:size")) (by (walk_at "mine:size")) (by (assumption)) (by (assumption)) (by (ktr_room)) (by (ktr_units)) ?_); intro v h' tk' hv F' N'; (obtain ⟨t9, hv⟩ := hv); subst hv; (try dsimp only); (try k_fold))
  k_with "m:mine:k_all" => ((with_reducible rename Lts _ _ => hL8); exact Lts.ne hL8 (by omega))
  k_with "m:eval Name" => (k_here; (with_reducible fail_if_success show wpAny _ _ (eval _ (compEnvC _ _ _ _)) _ _ _); (with_reducible fail_if_success show wpAny _ _ (eval _ (compEnv _ _ _)) _ _ _); (with_reducible rename At _ _ _ => hAt'); k_dflt (refine' nameX_L (by (k_asm)) (by (change At _ _ _; walk_at "mine:at")) ?_ (by (rfl)) (by (rfl))))
  k_with "m:setItem ref int" => (k_here; (with_reducible show wpAny _ _ (setItem (Value.ref _) (Value.int _ _) (Value.int _ _)) _ _ _); k_dflt (refine' setItem_baU (by (k_asm)) (by (k_asm)) (by (k_updF)) (by (omega)) (by (walk_at "mine:size")) (by (walk_at "mine:size")) (by (omega)) (by (walk_at "mine:octet")) ?_); intro h' F' N'; (try dsimp only at N' ⊢))
  k_with "m:mine:octet" => exact Int.ofNat_lt.mpr (UInt8.toNat_lt _)
  k_with "m:subscriptTail" => (k_here; (with_reducible show wpAny _ _ (subscriptTail _ _ (Value.bytes _ _) (Value.int _ _)) _ _ _); k_dflt (refine' item_By (by (omega)) (by (omega)) (by (omega)) ?_); intro _ _; (try dsimp only))
  k_with "m:call type:bytes" => (k_here; (show wpAny _ _ (call (Value.type "bytes") [Value.ref _]) _ _ _); k_dflt (refine' call_bytes_baL (by (k_asm)) (by (k_mem)) (by (assumption)) ?_); intro _ _; (try dsimp only))
  k_with "m:exec For Name Call cons nil" => refine Stop.go ?_
  trivial
/-- a call's contract over contexts that hold no bytearray -/
noncomputable def ClaimP (D U : Nat) (f : Addr) (vs : List PySem.Value) (R : PySem.Value → Prop) : Prop :=
  ∀ (w : World) (p : Place) (news : List (Addr × Obj)) (s : Shared) (Q E : PySem.Value → Shared → Prop), p.Sound (Mine.lawK w.params) news s D U →
    (∀ v h tk, R v → Fr p.first p.own h p.vars → News p.first p.own h news → Q v { s with heap := h, toks := tk }) →
    wpP Clean (model PySem.Challenge.rw_pd0128_01.row.prog w) p.around (call (.ref f) vs) Q E s
theorem ClaimP.use {D U : Nat} {f : Addr} {vs : List PySem.Value} {R : PySem.Value → Prop} (C : ClaimP D U f vs R) {w : World} {mean : ExcName → Option PySem.Value} {mg mb : Str → Option PySem.Value} {news : List (Addr × Obj)} {dp un : Nat} {gd : Option (List Code)} {cn : Str} {cs : Scope} {a : Addr} {ccd : PySem.Value} {cl : List (Str × Addr)} {outer : List Env} {A₀ : Around} {base h₀ : Heap} {L : Addr} {m : Str → Option PySem.Value} {s : Shared} {Q E : PySem.Value → Shared → Prop}
    (B : Below A₀ base outer h₀) (F : Fr h₀ L s.heap m) (X : (Mine.lawK w.params).In h₀) (N : News h₀ L s.heap news) (T : Top Mine.hd.view_1_2 (looseW Mine.hd.view_1_2 []) mean mg mb h₀) (hk : cs.kind = .function)
    (hd : dp + D < recursionLimit) (hu : un + U < cLine)
    (h : ∀ (v : PySem.Value) (h' : Heap) (tk' : Nat), R v → Fr h₀ L h' m → News h₀ L h' news → Q v { s with heap := h', toks := tk' }) :
    wpP Clean (model PySem.Challenge.rw_pd0128_01.row.prog w) (ktrTop dp un gd cn cs L a ccd cl outer) (call (.ref f) vs) Q E s :=
  C w ⟨mean, mg, mb, dp, un, gd, cn, cs, a, ccd, cl, outer, A₀, base, h₀, L, m⟩ news s Q E ⟨⟨B, X, T, hk, hd, hu⟩, F, N⟩ h
section
variable {prog : Program} {w : World} {A : Around} {E : PySem.Value → Shared → Prop} {s : Shared} {h₀ : Heap} {L : Addr} {m : Str → Option PySem.Value} {news : List (Addr × Obj)}
theorem item_By {value slice : PySem.Expr} {b : Array UInt8} {t : Tok} {k : Int} {u : Tok} {Q : PySem.Value → Shared → Prop} (h0 : 0 ≤ k) (h1 : k < b.size) (hz : b.size ≤ 1000000) (h : ∀ t' k', Q (.int ((b.getD k.toNat 0).toNat : Int) t') { s with toks := k' })
    (hs : subscripted slice false (.bytes b t) (.int k u) = operate [.bytes b t, .int k u] (getItem (.bytes b t) (.int k u)) := by with_unfolding_all rfl) :
    wpAny (model prog w) A (subscriptTail value slice (.bytes b t) (.int k u)) Q E s := by
  refine tail_any (typeIs_bytes s b t) FB.slot_bytes_getitem.lookup ?_ hs
  have e : b = b.toList.toArray := by simp
  have := getItem_bytes (prog := prog) (w := w) (A := A) (E := E) (s := s) (l := b.toList) (t := t) (i := k) (u := u) (Q := Q) (by simp; omega) h0 (by simpa using h1) (by
    have q := h s.toks (s.toks + 1)
    have e2 : b.toList.getD k.toNat 0 = b.getD k.toNat 0 := by simp [List.getD_eq_getElem?_getD, Array.getD_eq_getD_getElem?]
    rw [e2]; exact q)
  rwa [← e] at this
theorem call_bytes_baL {B : Addr} {b : Array UInt8} {Q : PySem.Value → Shared → Prop} (N : News h₀ L s.heap news) (hm : (B, baObj b) ∈ news) (hz : b.size ≤ 1000000)
    (h : ∀ t k, Q (.bytes b t) { s with toks := k }) : wpAny (model prog w) A (call (.type "bytes") [.ref B]) Q E s := call_bytes_ba (N _ hm).1 hz h
theorem u8_back (x : UInt8) : x.toNat.toUInt8 = x := by simp
theorem setItem_baU {B : Addr} {b : Array UInt8} {g : Obj → List (Addr × Obj)} {k x : Int} {t u : Tok} {Q : Unit → Shared → Prop} (F : Fr h₀ L s.heap m) (N : News h₀ L s.heap news) (U : UpdF B (baObj b) news g) (h0 : 0 ≤ k) (h1 : k < b.size) (hz : b.size ≤ 1000000) (hx0 : 0 ≤ x) (hx : x < 256)
    (h : ∀ h', Fr h₀ L h' m → News h₀ L h' (g (baObj (b.setIfInBounds k.toNat x.toNat.toUInt8))) → Q () { s with heap := h' }) :
    wpAny (model prog w) A (setItem (.ref B) (.int k t) (.int x u)) Q E s := by
  obtain ⟨own, rest, rfl, hg, a1, a2⟩ := U.split
  have hmem := N (B, baObj b) (List.mem_append_right _ (.head _))
  refine setItem_ba hmem.1 h0 h1 hz hx0 hx fun h' hs ho' => h h' (F.change hs hmem.2.1 hmem.2.2) (hg _ ▸ N.setAt a1 a2 hs ho')
end
section
theorem small_ok {a b c : Int} (ha : -1000000 ≤ a ∧ a ≤ 1000000) (hb : -1000000 ≤ b ∧ b ≤ 1000000) (hc : -1000000 ≤ c ∧ c ≤ 1000000) (_h : True) : Builtin.Range.small a b c = true := by
  have hr : -1 ≤ Builtin.Range.rangeSize a b c ∧ Builtin.Range.rangeSize a b c ≤ 4000000 := by
    unfold Builtin.Range.rangeSize
    split
    · split
      · rename_i h1 h2
        have h3 : 0 ≤ (b - a - 1) / c := Int.ediv_nonneg (by omega) (by omega)
        have h4 : (b - a - 1) / c ≤ b - a - 1 := Int.ediv_le_self _ (by omega)
        omega
      · omega
    · split
      · rename_i h1 h2
        by_cases hc0 : c = 0
        · subst hc0; simp
        have h3 : 0 ≤ (a - b - 1) / (-c) := Int.ediv_nonneg (by omega) (by omega)
        have h4 : (a - b - 1) / (-c) ≤ a - b - 1 := Int.ediv_le_self _ (by omega)
        omega
      · omega
  unfold Builtin.Range.small
  simp only [Builtin.Range.rangeFitsLong, Bool.and_eq_true, decide_eq_true_eq]
  generalize Builtin.Range.rangeSize a b c = r at hr
  refine ⟨⟨⟨⟨⟨by omega, by omega⟩, by omega, by omega⟩, by omega, by omega⟩, by omega, by omega⟩, ?_⟩
  rw [Bool.or_eq_true]
  right
  split
  · rw [Bool.and_eq_true, decide_eq_true_eq, decide_eq_true_eq]; omega
  · rw [Bool.and_eq_true, decide_eq_true_eq, decide_eq_true_eq]; omega
/-- between the turns of the inner loop -/
noncomputable def SwapJ (nw : Obj → List (Addr × Obj)) (B : Addr) (b : Array UInt8) (t u v : Tok) (j : Nat) (m : Str → Option PySem.Value) (nw' : List (Addr × Obj)) : Prop :=
  At m (Str.ofString "swapped_data") (.ref B) ∧ At m (Str.ofString "data") (.bytes b t) ∧ At m (Str.ofString "width") (.int (b.size : Int) u) ∧ At m (Str.ofString "i") (.int 0 v) ∧ nw' = nw (baObj (revPart b j))
set_option maxRecDepth 100000 in
set_option maxHeartbeats 1000000 in
theorem swap_ok1 (b : Array UInt8) (t u : Tok) (hb : b.size ≤ 1000) (hb0 : 0 < b.size) : ClaimP 1 30 134 [.bytes b t, .int (b.size : Int) u] (fun v => ∃ t', v = .bytes b.reverse t') := by
  unfold ClaimP
  k_fill
  rintro w ⟨mean, mg, mb, dp, un, gd, cn, cs, a, ccd, cl, outer, A₀, base, h₀, L, m⟩ news s Q E ⟨⟨B, X, T, hk, hd, hu⟩, F, N⟩ hret
  dsimp only [Place.around] at *
  refine wpP_call clean_kept ?_
  k_dflt (refine code_defP clean_kept ⟨B, F, X, N, T, rfl, rfl, hk⟩ (by k_is) (by k_is) (by ktr_room) (BindsTo.of_eq rfl) rfl (by decide +kernel) ?_ ⟨rfl, rfl, rfl⟩)
  k_whole
  rintro g' L' h' tk' cells' ⟨FG', F', N', Y', B', X', T', l1⟩
  have hL9 := Lts.mk' l1
  try k_lt l1
  cases Y'
  simp only [List.nil_append] at N'
  try dsimp only
  try k_lift B'
  try k_fold
  refine execsP (AssignP (CallP ?_))
  k_steps
  refine callWith_typeP (splConsP ?_)
  refine wpP.of_any ?_
  k_steps
  refine splNilP ?_
  (with_reducible rename Fr _ _ _ _ => F₁)
  (with_reducible rename News _ _ _ _ => N₁)
  refine call_ba_K F₁ N₁ (by omega) ?_
  clear F₁ N₁
  intro h₁ B₁ F₁ N₁ lB
  k_steps
  refine wpP.of_any ?_
  k_steps
  (with_reducible rename Fr _ _ _ _ => F₁)
  (with_reducible rename News _ _ _ _ => N₁)
  have hsm : Builtin.Range.small 0 (b.size : Int) (b.size : Int) = true := small_ok (by omega) (by omega) (by omega) trivial
  have hrs : Builtin.Range.rangeSize 0 (b.size : Int) (b.size : Int) = ((1 : Nat) : Int) := by
    unfold Builtin.Range.rangeSize
    rw [if_pos (by omega), if_pos (by omega)]
    have : ((b.size : Int) - 0 - 1) / (b.size : Int) = 0 := Int.ediv_eq_zero_of_lt (by omega) (by omega)
    rw [this]; rfl
  have hsm1 : Builtin.Range.small 0 (b.size : Int) 1 = true := small_ok (by omega) (by omega) (by omega) trivial
  have hrs1 : Builtin.Range.rangeSize 0 (b.size : Int) 1 = ((b.size : Nat) : Int) := by
    unfold Builtin.Range.rangeSize
    rw [if_pos (by omega), if_pos (by omega)]
    omega
  have hBs : ∀ j, (revPart b j).size = b.size := revPart_size b
  have FN := And.intro F₁ N₁
  refine wpP.any (For_rng (a := 0) (b := (b.size : Int)) (c := (b.size : Int)) (n := 1) every_kept rfl hsm hrs F₁ N₁ ?hx (fun i m' nw => At m' (Str.ofString "swapped_data") (.ref B₁) ∧ At m' (Str.ofString "data") (.bytes b t) ∧ At m' (Str.ofString "width") (.int (b.size : Int) u) ∧ nw = (B₁, baObj (revPart b (i * b.size))) :: news) ?h0 ?turn ?fin)
  case hx =>
    k_steps
    exact RngAt.intro (by assumption) FN.1 FN.2 (by assumption)
  case h0 =>
    refine ⟨?_, ?_, ?_, ?_⟩
    · exact rfl
    · exact rfl
    · exact rfl
    · rw [Nat.zero_mul]; rfl
  case turn =>
    intro i ti m₂ nw₂ h₂ tk₂ I oI hi hJ off F₂ N₂
    obtain ⟨a1, a2, a3, rfl⟩ := hJ
    obtain rfl : i = 0 := by omega
    clear FN F₁ N₁
    have e0 : (0 + ((0 : Nat) : Int) * (b.size : Int)) = 0 := by simp
    rw [e0]
    rw [Nat.zero_mul] at N₂ off
    have hBI : @Ne Nat B₁ I := off _ List.mem_cons_self
    refine wpAny_assign_Name ?_
    k_steps
    refine wpP.of_any ?_
    k_steps
    (with_reducible rename Fr _ _ _ _ => F₁)
    (with_reducible rename News _ _ _ _ => N₁)
    have FN := And.intro F₁ N₁
    refine wpP.any (For_rng (a := 0) (b := (b.size : Int)) (c := 1) (n := b.size) every_kept rfl hsm1 hrs1 F₁ N₁ ?hx2 (SwapJ (fun o => (I, oI) :: (B₁, o) :: news) B₁ b t u ti) ?h02 ?turn2 ?fin2)
    case hx2 =>
      k_steps
      exact RngAt.intro (by assumption) FN.1 FN.2 (by assumption)
    case h02 => exact ⟨At.skip (by decide) (by assumption), At.skip (by decide) (by assumption), At.skip (by decide) (by assumption), by exact At.here, rfl⟩
    case turn2 =>
      intro j tj m₃ nw₃ h₃ tk₃ I₃ oI₃ hj hJ₃ off₃ F₃ N₃
      obtain ⟨c1, c2, c3, c4, rfl⟩ := hJ₃
      have hBj := hBs j
      have hIB : @Ne Nat I₃ B₁ := Ne.symm (off₃ _ (List.mem_cons_of_mem _ List.mem_cons_self))
      have hIB2 : @Ne Nat I B₁ := Ne.symm hBI
      have ej : (0 + (j : Int) * 1) = (j : Int) := by omega
      rw [ej]
      clear FN F₁ N₁
      refine wpAny_assign_Name ?_
      k_steps
      refine wpP.of_any ?_
      k_steps
      (with_reducible rename Fr _ _ _ _ => F₅)
      (with_reducible rename News _ _ _ _ => N₅)
      have e : (revPart b j).setIfInBounds (0 + (b.size : Int) - 1 - (j : Int)).toNat (((b.getD (0 + (j : Int)).toNat 0).toNat : Int).toNat.toUInt8) = revPart b (j + 1) := by
        rw [revPart]
        have e1 : (0 + (b.size : Int) - 1 - (j : Int)).toNat = b.size - 1 - j := by omega
        have e2 : (0 + (j : Int)).toNat = j := by omega
        rw [e1, e2, Int.toNat_natCast, u8_back]
      rw [e] at N₅
      dsimp only
      refine UnrEnd.intro F₅ N₅ ((I, oI) :: (B₁, baObj (revPart b (j + 1))) :: news) (fun p hp => hp) (fun p hp => ?_) ⟨At.skip (by decide) (by assumption), At.skip (by decide) (by assumption), At.skip (by decide) (by assumption), At.skip (by decide) (by assumption), rfl⟩
      rcases List.mem_cons.mp hp with rfl | hp
      · exact off₃ _ List.mem_cons_self
      · rcases List.mem_cons.mp hp with rfl | hp
        · exact Ne.symm hIB
        · exact off₃ p (List.mem_cons_of_mem _ (List.mem_cons_of_mem _ hp))
    case fin2 =>
      intro h₃ tk₃ m₃ nw₃ F₃ N₃ hJ₃
      obtain ⟨c1, c2, c3, c4, rfl⟩ := hJ₃
      clear FN F₁ N₁
      k_steps
      dsimp only
      refine UnrEnd.intro F₃ N₃ ((B₁, baObj (revPart b b.size)) :: news) (fun p hp => hp) (fun p hp => ?_) ⟨c1, c2, c3, by rw [Nat.zero_add, Nat.one_mul]⟩
      rcases List.mem_cons.mp hp with rfl | hp
      · exact hBI
      · exact off p (List.mem_cons_of_mem _ hp)
  case fin =>
    intro h₃ tk₃ m₃ nw₃ F₃ N₃ hJ₃
    obtain ⟨c1, c2, c3, rfl⟩ := hJ₃
    rw [Nat.one_mul, revPart_all] at N₃
    clear FN F₁ N₁
    have hrz : b.reverse.size ≤ 1000000 := by rw [Array.size_reverse]; omega
    k_steps
    all_goals (refine hret _ _ _ ⟨_, rfl⟩ ?f ?n; (case f => assumption); (case n => walk_at "mine:news"))
set_option maxRecDepth 100000 in
set_option maxHeartbeats 1000000 in
theorem swap_ok0 (t u : Tok) : ClaimP 1 30 134 [.bytes #[] t, .int 1 u] (fun v => ∃ t', v = .bytes #[] t') := by
  have hb : (#[] : Array UInt8).size = 0 := rfl
  unfold ClaimP
  k_fill
  rintro w ⟨mean, mg, mb, dp, un, gd, cn, cs, a, ccd, cl, outer, A₀, base, h₀, L, m⟩ news s Q E ⟨⟨B, X, T, hk, hd, hu⟩, F, N⟩ hret
  dsimp only [Place.around] at *
  refine wpP_call clean_kept ?_
  k_dflt (refine code_defP clean_kept ⟨B, F, X, N, T, rfl, rfl, hk⟩ (by k_is) (by k_is) (by ktr_room) (BindsTo.of_eq rfl) rfl (by decide +kernel) ?_ ⟨rfl, rfl, rfl⟩)
  k_whole
  rintro g' L' h' tk' cells' ⟨FG', F', N', Y', B', X', T', l1⟩
  have hL9 := Lts.mk' l1
  try k_lt l1
  cases Y'
  simp only [List.nil_append] at N'
  try dsimp only
  try k_lift B'
  try k_fold
  refine execsP (AssignP (CallP ?_))
  k_steps
  refine callWith_typeP (splConsP ?_)
  refine wpP.of_any ?_
  k_steps
  refine splNilP ?_
  (with_reducible rename Fr _ _ _ _ => F₁)
  (with_reducible rename News _ _ _ _ => N₁)
  refine call_ba_K (n := 0) F₁ N₁ (by omega) ?_
  clear F₁ N₁
  intro h₁ B₁ F₁ N₁ lB
  k_steps
  refine wpP.of_any ?_
  k_steps
  (with_reducible rename Fr _ _ _ _ => F₁)
  (with_reducible rename News _ _ _ _ => N₁)
  have FN := And.intro F₁ N₁
  refine wpP.any (For_rng (a := 0) (b := 0) (c := 1) (n := 0) every_kept rfl (by decide) (by decide) F₁ N₁ ?hx (fun i m' nw => At m' (Str.ofString "swapped_data") (.ref B₁) ∧ nw = (B₁, baObj #[]) :: news) ?h0 ?turn ?fin)
  case hx =>
    k_steps
    exact RngAt.intro (by assumption) FN.1 FN.2 (by assumption)
  case h0 => exact ⟨rfl, rfl⟩
  case turn => intro i ti m₂ nw₂ h₂ tk₂ I oI hi; exact absurd hi (Nat.not_lt_zero _)
  case fin =>
    intro h₃ tk₃ m₃ nw₃ F₃ N₃ hJ₃
    obtain ⟨c1, rfl⟩ := hJ₃
    clear FN F₁ N₁
    have hrz : (#[] : Array UInt8).size ≤ 1000000 := by rw [hb]; omega
    k_steps
    all_goals (refine hret _ _ _ ⟨_, rfl⟩ ?f ?n; (case f => assumption); (case n => walk_at "mine:news"))
end
theorem rules_C9 : True := by
  k_with_none
  k_with "m:call type:type" => (k_here; (with_reducible show wpAny _ _ (call (Value.type "type") [Value.bytes _ _]) _ _ _); (refine type_bytes ?_))
  k_with "m:call builtin:issubclass" => (k_here; (show wpAny _ _ (call (Value.builtin "issubclass") [Value.type "bytes", Value.ref _]) _ _ _); k_dflt (refine' issub_N (by (k_asm)) (by (k_mem)) ?_))
  k_with "m:mine:news" => first | assumption | (refine cb_drop (by assumption) ?_; intro p hp; repeat (first | exact hp | refine List.mem_cons_of_mem _ ?_))
  k_with "m:mine:size" => first | omega | (simp only [Array.size_append, List.size_toArray, List.length_cons, List.length_nil] at *; omega)
  k_with "m:getMethod bytes" => (k_here; (with_reducible first | refine meth FB.slot_bytes_startswith FB.type_bytes_startswith ?_ | refine meth FB.slot_bytes_endswith FB.type_bytes_endswith ?_ | refine meth slot_rfind type_rfind ?_ | refine meth slot_rstrip type_rstrip ?_ | refine meth slot_split type_split ?_ | refine meth slot_join type_join ?_))
  k_with "m:call builtin:bytes.startswith" => (k_here; (show wpAny _ _ (call (Value.builtin "bytes.startswith") [Value.bytes _ _, Value.bytes _ _]) _ _ _); (refine call_starts ?_))
  k_with "m:call builtin:bytes.endswith" => (k_here; (show wpAny _ _ (call (Value.builtin "bytes.endswith") [Value.bytes _ _, Value.bytes _ _]) _ _ _); (refine call_ends ?_))
  k_with "m:call builtin:bytes.rfind" => (k_here; (show wpAny _ _ (call (Value.builtin "bytes.rfind") [Value.bytes _ _, Value.bytes _ _]) _ _ _); (refine call_rfind ?_))
  k_with "m:call builtin:bytes.rstrip" => (k_here; (show wpAny _ _ (call (Value.builtin "bytes.rstrip") [Value.bytes _ _, Value.bytes _ _]) _ _ _); (refine call_rstrip (by walk_at "mine:size") ?_); intro _ _)
  k_with "m:truthy bytes" => (k_here; (with_reducible show wpAny _ _ (truthy (Value.bytes _ _)) _ _ _); (refine truthy_bytes (by walk_at "mine:size") ?_))
  k_with "m:call builtin:len" => (k_here; (show wpAny _ _ (call (Value.builtin "len") [Value.bytes _ _]) _ _ _); (refine len_bytes (by walk_at "mine:size") ?_))
  k_with "m:subscriptTail" => (k_here; (with_reducible show wpAny _ _ (subscriptTail _ (Expr.Slice _ _ none _) (Value.bytes _ _) (Value.ref _)) _ _ _); (with_reducible rename Fr _ _ _ _ => F'); (with_reducible rename News _ _ _ _ => N'); (refine slice_B (s := ⟨_, _, _, _, _⟩) F' N' (by constructor) (by constructor) (by walk_at "mine:size") ?_); intro _ _ _ F' N' hsz')
  k_with "m:binaryOp Mult bytes int" => (k_here; (with_reducible show wpAny _ _ (binaryOp Operator.Mult (Value.bytes _ _) (Value.int _ _)) _ _ _); (refine mul_one (by omega) (by walk_at "mine:size") ?_); intro _ _)
  k_with "m:binaryOp Add bytes bytes" => (k_here; (with_reducible show wpAny _ _ (binaryOp Operator.Add (Value.bytes _ _) (Value.bytes _ _)) _ _ _); (refine KBy.add_bytes (by walk_at "mine:size") ?_); intro _ _)
  k_with "m:compareOp NotEq bytes bytes" => (k_here; (refine ne_bytes ?_))
  k_with "m:compareOp Eq bytes bytes" => (k_here; (refine eq_bytes ?_))
  k_with "m:exec Try" => (k_here; (refine Try_calm ?_))
  k_with "m:mine:passes_own" => exact fun _ _ h => (show False from h).elim
  k_with "m:inplaceOp Add" => (k_here; (with_reducible show wpAny _ _ (inplaceOp Operator.Add (Value.bytes _ _) (Value.bytes _ _)) _ _ _); (refine iadd_bytes (by walk_at "mine:size") ?_); intro _ _)
  k_with "m:call builtin:bytes.split" => (k_here; (show wpAny _ _ (call (Value.builtin "bytes.split") [Value.bytes _ _, Value.bytes _ _]) _ _ _); k_dflt (refine' call_split1 (by (k_asm)) (by (k_asm)) (by (walk_at "mine:size")) ?_); intro l' h' vs' k' hv' hn' F' N' l1'; (try dsimp only))
  k_with "m:call builtin:len" => (k_here; (show wpAny _ _ (call (Value.builtin "len") [Value.ref _]) _ _ _); k_dflt (refine' len_L (by (k_asm)) (by (k_mem)) (by (omega)) ?_); intro _ _)
  k_with "m:mine:at" => with_reducible (first | exact At.here | assumption | exact At.skip (by decide) (by walk_at "mine:at"))
  k_with "m:eval Name" => (k_here; (with_reducible fail_if_success show wpAny _ _ (eval _ (compEnvC _ _ _ _)) _ _ _); (with_reducible fail_if_success show wpAny _ _ (eval _ (compEnv _ _ _)) _ _ _); (with_reducible fail_if_success show wpAny _ _ (eval _ (envOfC _ _ _ _ _)) _ _ _); (with_reducible rename At _ _ _ => hAt'); k_dflt (refine' ld (by (k_asm)) (by (change At _ _ _; walk_at "mine:at")) ?_))
  k_with "m:loadName" => (k_here; (with_reducible fail_if_success show wpAny _ _ (loadName (envOfC _ _ _ _ _) _) _ _ _); (with_reducible rename At _ _ _ => hAt'); k_dflt (refine' ldn (by (k_asm)) (by (change At _ _ _; walk_at "mine:at")) ?_))
  k_with "m:subscriptTail" => (k_here; (with_reducible show wpAny _ _ (subscriptTail _ _ (Value.ref _) (Value.int (-1) _)) _ _ _); k_dflt (refine' item_last (by (k_asm)) (by (k_mem)) ?_))
  k_with "m:call ref" => (k_here; (with_reducible show wpAny _ _ (call (Value.ref 94) [Value.bytes _ _]) _ _ _); k_dflt (refine' Claim.use (fspath_ok _ _) (by (k_asm)) (by (k_asm)) (by (k_asm)) (by (k_asm)) (by (k_asm)) (by (first | exact rfl | assumption)) (by (ktr_room)) (by (ktr_units)) ?_); intro v h' tk' hv F' N'; subst hv; (try dsimp only); (try k_fold))
  k_with "m:call ref" => (k_here; (with_reducible show wpAny _ _ (call (Value.ref 108) [Value.bytes _ _]) _ _ _); k_dflt (refine' Claim.use (get_sep_ok _ _) (by (k_asm)) (by (k_asm)) (by (k_asm)) (by (k_asm)) (by (k_asm)) (by (first | exact rfl | assumption)) (by (ktr_room)) (by (ktr_units)) ?_); intro v h' tk' hv F' N'; (obtain ⟨t9, hv⟩ := hv); subst hv; (try dsimp only); (try k_fold))
  k_with "m:call ref" => (k_here; (with_reducible show wpAny _ _ (call (Value.ref 122) [Value.bytes _ _]) _ _ _); k_dflt (refine' Claim.use (dirname_ok _ _ (by (walk_at "mine:size"))) (by (k_asm)) (by (k_asm)) (by (k_asm)) (by (k_asm)) (by (k_asm)) (by (first | exact rfl | assumption)) (by (ktr_room)) (by (ktr_units)) ?_); intro v h' tk' hv F' N'; (obtain ⟨t9, hv⟩ := hv); subst hv; (try dsimp only); (try k_fold))
  k_with "m:call ref" => (k_here; (with_reducible show wpAny _ _ (call (Value.ref 127) [Value.ref _]) _ _ _); k_dflt (refine' common_use (by (k_asm)) (by (k_asm)) (by (k_asm)) (by (k_asm)) (by (k_asm)) (by (first | exact rfl | assumption)) (by (walk_at "mine:size")) (by (walk_at "mine:size")) (by (assumption)) (by (assumption)) (by (ktr_room)) (by (ktr_units)) ?_); intro v h' tk' hv F' N'; (obtain ⟨t9, hv⟩ := hv); subst hv; (try dsimp only); (try k_fold))
  k_with "m:mine:k_all" => ((with_reducible rename Lts _ _ => hL8); exact Lts.ne hL8 (by omega))
  trivial
section
set_option maxRecDepth 100000 in
set_option maxHeartbeats 1000000 in
theorem mirror_ok (b : Array UInt8) (t : Tok) (hb : b.size ≤ 1000) : ClaimP 3 60 141 [.bytes b t] (fun v => ∃ t', v = .bytes b.reverse t') := by
  unfold ClaimP
  k_fill
  rintro w ⟨mean, mg, mb, dp, un, gd, cn, cs, a, ccd, cl, outer, A₀, base, h₀, L, m⟩ news s Q E ⟨⟨B, X, T, hk, hd, hu⟩, F, N⟩ hret
  dsimp only [Place.around] at *
  refine wpP_call clean_kept ?_
  k_dflt (refine code_defP clean_kept ⟨B, F, X, N, T, rfl, rfl, hk⟩ (by k_is) (by k_is) (by ktr_room) (BindsTo.of_eq rfl) rfl (by decide +kernel) ?_ ⟨rfl, rfl, rfl⟩)
  k_whole
  rintro g' L' h' tk' cells' ⟨FG', F', N', Y', B', X', T', l1⟩
  have hL9 := Lts.mk' l1
  try k_lt l1
  cases Y'
  simp only [List.nil_append] at N'
  try dsimp only
  try k_lift B'
  try k_fold
  refine execsP (ReturnP (CallP ?_))
  k_steps
  refine callWith_refP (splConsP ?_)
  refine wpP.of_any ?_
  k_steps
  refine splConsP ?_
  refine wpP.of_any ?_
  k_steps
  refine splNilP ?_
  refine ⟨?fn, ?_⟩
  case fn =>
    refine' fn_at ?f2 ?f3 ?f1
    case f2 => k_asm
    case f3 => k_asm
    case f1 => k_is
  rcases Nat.eq_zero_or_pos b.size with h0 | h0
  · have hbe : b = #[] := Array.eq_empty_of_size_eq_zero h0
    subst hbe
    have e : (if ((#[] : Array UInt8).size : Int) > 1 then ((#[] : Array UInt8).size : Int) else 1) = 1 := rfl
    rw [e]
    k_dflt (refine' ClaimP.use (swap_ok0 _ _) (by k_asm) (by k_asm) (by k_asm) (by k_asm) (by k_asm) (by first | exact rfl | assumption) (by ktr_room) (by ktr_units) ?_)
    intro v h' tk' hv F' N'
    obtain ⟨t9, rfl⟩ := hv
    dsimp only
    k_steps
    all_goals (refine hret _ _ _ ⟨_, rfl⟩ ?f ?n; (case f => assumption); (case n => walk_at "mine:news"))
  · have e : (if (b.size : Int) > 1 then (b.size : Int) else 1) = (b.size : Int) := by split <;> omega
    rw [e]
    k_dflt (refine' ClaimP.use (swap_ok1 b _ _ hb h0) (by k_asm) (by k_asm) (by k_asm) (by k_asm) (by k_asm) (by first | exact rfl | assumption) (by ktr_room) (by ktr_units) ?_)
    intro v h' tk' hv F' N'
    obtain ⟨t9, rfl⟩ := hv
    dsimp only
    k_steps
    all_goals (refine hret _ _ _ ⟨_, rfl⟩ ?f ?n; (case f => assumption); (case n => walk_at "mine:news"))
end
theorem rules_L1 : True := by
  k_with_none
  k_with "m:call type:type" => (k_here; (with_reducible show wpAny _ _ (call (Value.type "type") [Value.bytes _ _]) _ _ _); (refine type_bytes ?_))
  k_with "m:call builtin:issubclass" => (k_here; (show wpAny _ _ (call (Value.builtin "issubclass") [Value.type "bytes", Value.ref _]) _ _ _); k_dflt (refine' issub_N (by (k_asm)) (by (k_mem)) ?_))
  k_with "m:mine:news" => first | assumption | (refine cb_drop (by assumption) ?_; intro p hp; repeat (first | exact hp | refine List.mem_cons_of_mem _ ?_))
  k_with "m:mine:size" => first | omega | (simp only [Array.size_append, List.size_toArray, List.length_cons, List.length_nil] at *; omega)
  k_with "m:getMethod bytes" => (k_here; (with_reducible first | refine meth FB.slot_bytes_startswith FB.type_bytes_startswith ?_ | refine meth FB.slot_bytes_endswith FB.type_bytes_endswith ?_ | refine meth slot_rfind type_rfind ?_ | refine meth slot_rstrip type_rstrip ?_ | refine meth slot_split type_split ?_ | refine meth slot_join type_join ?_))
  k_with "m:call builtin:bytes.startswith" => (k_here; (show wpAny _ _ (call (Value.builtin "bytes.startswith") [Value.bytes _ _, Value.bytes _ _]) _ _ _); (refine call_starts ?_))
  k_with "m:call builtin:bytes.endswith" => (k_here; (show wpAny _ _ (call (Value.builtin "bytes.endswith") [Value.bytes _ _, Value.bytes _ _]) _ _ _); (refine call_ends ?_))
  k_with "m:call builtin:bytes.rfind" => (k_here; (show wpAny _ _ (call (Value.builtin "bytes.rfind") [Value.bytes _ _, Value.bytes _ _]) _ _ _); (refine call_rfind ?_))
  k_with "m:call builtin:bytes.rstrip" => (k_here; (show wpAny _ _ (call (Value.builtin "bytes.rstrip") [Value.bytes _ _, Value.bytes _ _]) _ _ _); (refine call_rstrip (by walk_at "mine:size") ?_); intro _ _)
  k_with "m:truthy bytes" => (k_here; (with_reducible show wpAny _ _ (truthy (Value.bytes _ _)) _ _ _); (refine truthy_bytes (by walk_at "mine:size") ?_))
  k_with "m:call builtin:len" => (k_here; (show wpAny _ _ (call (Value.builtin "len") [Value.bytes _ _]) _ _ _); (refine len_bytes (by walk_at "mine:size") ?_))
  k_with "m:subscriptTail" => (k_here; (with_reducible show wpAny _ _ (subscriptTail _ (Expr.Slice _ _ none _) (Value.bytes _ _) (Value.ref _)) _ _ _); (with_reducible rename Fr _ _ _ _ => F'); (with_reducible rename News _ _ _ _ => N'); (refine slice_B (s := ⟨_, _, _, _, _⟩) F' N' (by constructor) (by constructor) (by walk_at "mine:size") ?_); intro _ _ _ F' N' hsz')
  k_with "m:binaryOp Mult bytes int" => (k_here; (with_reducible show wpAny _ _ (binaryOp Operator.Mult (Value.bytes _ _) (Value.int _ _)) _ _ _); (refine mul_one (by omega) (by walk_at "mine:size") ?_); intro _ _)
  k_with "m:binaryOp Add bytes bytes" => (k_here; (with_reducible show wpAny _ _ (binaryOp Operator.Add (Value.bytes _ _) (Value.bytes _ _)) _ _ _); (refine KBy.add_bytes (by walk_at "mine:size") ?_); intro _ _)
  k_with "m:compareOp NotEq bytes bytes" => (k_here; (refine ne_bytes ?_))
  k_with "m:compareOp Eq bytes bytes" => (k_here; (refine eq_bytes ?_))
  k_with "m:exec Try" => (k_here; (refine Try_calm ?_))
  k_with "m:mine:passes_own" => exact fun _ _ h => (show False from h).elim
  k_with "m:inplaceOp Add" => (k_here; (with_reducible show wpAny _ _ (inplaceOp Operator.Add (Value.bytes _ _) (Value.bytes _ _)) _ _ _); (refine iadd_bytes (by walk_at "mine:size") ?_); intro _ _)
  k_with "m:call builtin:bytes.split" => (k_here; (show wpAny _ _ (call (Value.builtin "bytes.split") [Value.bytes _ _, Value.bytes _ _]) _ _ _); k_dflt (refine' call_split1 (by (k_asm)) (by (k_asm)) (by (walk_at "mine:size")) ?_); intro l' h' vs' k' hv' hn' F' N' l1'; (try dsimp only))
  k_with "m:call builtin:len" => (k_here; (show wpAny _ _ (call (Value.builtin "len") [Value.ref _]) _ _ _); k_dflt (refine' len_L (by (k_asm)) (by (k_mem)) (by (omega)) ?_); intro _ _)
  k_with "m:mine:at" => with_reducible (first | exact At.here | assumption | exact At.skip (by decide) (by walk_at "mine:at"))
  k_with "m:eval Name" => (k_here; (with_reducible fail_if_success show wpAny _ _ (eval _ (compEnvC _ _ _ _)) _ _ _); (with_reducible fail_if_success show wpAny _ _ (eval _ (compEnv _ _ _)) _ _ _); (with_reducible fail_if_success show wpAny _ _ (eval _ (envOfC _ _ _ _ _)) _ _ _); (with_reducible rename At _ _ _ => hAt'); k_dflt (refine' ld (by (k_asm)) (by (change At _ _ _; walk_at "mine:at")) ?_))
  k_with "m:loadName" => (k_here; (with_reducible fail_if_success show wpAny _ _ (loadName (envOfC _ _ _ _ _) _) _ _ _); (with_reducible rename At _ _ _ => hAt'); k_dflt (refine' ldn (by (k_asm)) (by (change At _ _ _; walk_at "mine:at")) ?_))
  k_with "m:subscriptTail" => (k_here; (with_reducible show wpAny _ _ (subscriptTail _ _ (Value.ref _) (Value.int (-1) _)) _ _ _); k_dflt (refine' item_last (by (k_asm)) (by (k_mem)) ?_))
  k_with "m:call ref" => (k_here; (with_reducible show wpAny _ _ (call (Value.ref 94) [Value.bytes _ _]) _ _ _); k_dflt (refine' Claim.use (fspath_ok _ _) (by (k_asm)) (by (k_asm)) (by (k_asm)) (by (k_asm)) (by (k_asm)) (by (first | exact rfl | assumption)) (by (ktr_room)) (by (ktr_units)) ?_); intro v h' tk' hv F' N'; subst hv; (try dsimp only); (try k_fold))
  k_with "m:call ref" => (k_here; (with_reducible show wpAny _ _ (call (Value.ref 108) [Value.bytes _ _]) _ _ _); k_dflt (refine' Claim.use (get_sep_ok _ _) (by (k_asm)) (by (k_asm)) (by (k_asm)) (by (k_asm)) (by (k_asm)) (by (first | exact rfl | assumption)) (by (ktr_room)) (by (ktr_units)) ?_); intro v h' tk' hv F' N'; (obtain ⟨t9, hv⟩ := hv); subst hv; (try dsimp only); (try k_fold))
  k_with "m:call ref" => (k_here; (with_reducible show wpAny _ _ (call (Value.ref 122) [Value.bytes _ _]) _ _ _); k_dflt (refine' Claim.use (dirname_ok _ _ (by (walk_at "mine:size"))) (by (k_asm)) (by (k_asm)) (by (k_asm)) (by (k_asm)) (by (k_asm)) (by (first | exact rfl | assumption)) (by (ktr_room)) (by (ktr_units)) ?_); intro v h' tk' hv F' N'; (obtain ⟨t9, hv⟩ := hv); subst hv; (try dsimp only); (try k_fold))
  k_with "m:call ref" => (k_here; (with_reducible show wpAny _ _ (call (Value.ref 127) [Value.ref _]) _ _ _); k_dflt (refine' common_use (by (k_asm)) (by (k_asm)) (by (k_asm)) (by (k_asm)) (by (k_asm)) (by (first | exact rfl | assumption)) (by (walk_at "mine:size")) (by (walk_at "mine:size")) (by (assumption)) (by (assumption)) (by (ktr_room)) (by (ktr_units)) ?_); intro v h' tk' hv F' N'; (obtain ⟨t9, hv⟩ := hv); subst hv; (try dsimp only); (try k_fold))
  k_with "m:mine:k_all" => ((with_reducible rename Lts _ _ => hL8); exact Lts.ne hL8 (by omega))
  k_with "m:subscriptTail Name Slice ref ref" => (k_here; (with_reducible show wpAny _ _ (subscriptTail _ (PySem.Expr.Slice _ _ (some _) _) (PySem.Value.ref _) (PySem.Value.ref _)) _ _ _); k_dflt (refine' slice3_ints (s := ⟨_, _, _, _, _⟩) (by (k_asm)) (by (k_asm)) (by (assumption)) (by (assumption)) (by (constructor)) (by (constructor)) (by (constructor)) (by (decide)) (by (assumption)) ?_); intro D' h' ws' ns' F' N' l1 hI')
  k_with "m:call builtin:sum" => (k_here; (show wpAny _ _ (call (PySem.Value.builtin "sum") [PySem.Value.ref _]) _ _ _); k_dflt (refine' sumK (by (exact rfl)) (by (k_asm)) (by (k_asm)) (by (exact News.isList (by k_asm) (by k_mem))) (by (assumption)) ?_); intro h' tk' t' F' N')
  k_with "m:subscriptTail Name Name ref int" => (k_here; (with_reducible show wpAny _ _ (subscriptTail _ _ (PySem.Value.ref _) (PySem.Value.int _ _)) _ _ _); k_dflt (refine item_any (Pv := IsInt) (by k_asm) (by k_mem) (by omega) (by (simp only [List.length_cons, List.length_nil]; omega)) (Nat.le_of_ble_eq_true rfl) (by repeat (first | exact List.forall_mem_nil _ | refine List.forall_mem_cons.mpr ⟨⟨_, _, rfl⟩, ?_⟩)) ?_); intro v' hv'; (obtain ⟨j', t', hv'⟩ := hv'); subst hv')
  k_with "m:subscriptTail Name BinOp ref int" => (k_here; (with_reducible show wpAny _ _ (subscriptTail _ _ (PySem.Value.ref _) (PySem.Value.int _ _)) _ _ _); k_dflt (refine item_any (Pv := IsKind) (by k_asm) (by k_mem) (by omega) (by (simp only [List.length_cons, List.length_nil]; omega)) (Nat.le_of_ble_eq_true rfl) (by repeat (first | exact List.forall_mem_nil _ | refine List.forall_mem_cons.mpr ⟨⟨_, _, rfl, by unfold Kind; decide⟩, ?_⟩)) ?_); intro v' hv'; (obtain ⟨b', t', hv', hK'⟩ := hv'); subst hv')
  trivial
noncomputable def lawBody : List Stmt := lawRec.1.1.body
noncomputable def lawScope : Scope := lawRec.1.1.scope
section
/-- the octets a name may be -/
noncomputable def Kind (b : Array UInt8) : Prop := b = #[97, 98] ∨ b = #[97] ∨ b = #[98, 97] ∨ b = #[97, 98, 97]
noncomputable def OffN : List (Addr × Obj) → Addr → Prop
  | [], _ => True
  | p :: ps, D => @Ne Nat p.1 D ∧ OffN ps D
theorem offN : ∀ {ps : List (Addr × Obj)} {D : Addr}, (∀ q ∈ ps, q.1 ≠ D) → OffN ps D
  | [], _, _ => trivial
  | _ :: _, _, h => ⟨h _ List.mem_cons_self, offN fun q hq => h q (List.mem_cons_of_mem _ hq)⟩
noncomputable def IsInt (v : PySem.Value) : Prop := ∃ j t, v = .int j t
noncomputable def IsKind (v : PySem.Value) : Prop := ∃ b t, v = .bytes b t ∧ Kind b
set_option maxRecDepth 100000 in
set_option maxHeartbeats 4000000 in
theorem law_s1 (w : World) (mean : ExcName → Option PySem.Value) (mg mb : Str → Option PySem.Value) (h₀ : Heap) (L fa lx : Addr) (cd : PySem.Value) (xs : List Int) (vs : List PySem.Value) (o1 o2 o3 o4 o5 o6 : Obj) (s : Shared) (Q : Flow → Shared → Prop)
    (B : Below callerA h₀ [] h₀) (X : (Mine.lawK w.params).In h₀) (T : Top Mine.hd.view_1_2 (looseW Mine.hd.view_1_2 []) mean mg mb h₀) (hlx : h₀.IsList lx vs.toArray) (hI : IntsAre vs xs) (hlen : xs.length ≤ 63)
    (d1 : o1.data = .cell (some (.ref lx))) (d2 : o2.data = .cell none) (d3 : o3.data = .cell none) (d4 : o4.data = .cell none) (d5 : o5.data = .cell none) (d6 : o6.data = .cell none)
    (F : Fr h₀ L s.heap (fun _ => none)) (N : News h₀ L s.heap [(L + 1 + 1 + 1 + 1 + 1 + 1, o6), (L + 1 + 1 + 1 + 1 + 1, o5), (L + 1 + 1 + 1 + 1, o4), (L + 1 + 1 + 1, o3), (L + 1 + 1, o2), (L + 1, o1)])
    (k : ∀ (ln : Addr) (ys : List PySem.Value) (ns : List (Array UInt8)) (o4 : Obj) (h : Heap) (tk : Nat), BytesAre ys ns → ns.length = 8 → (∀ b ∈ ns, Kind b) → o4.data = .cell (some (.ref ln)) → @Ne Nat (L + 1 + 1 + 1 + 1 + 1 + 1) ln → @Ne Nat (L + 1 + 1 + 1 + 1 + 1) ln → @Ne Nat (L + 1 + 1 + 1 + 1) ln →
      Fr h₀ L h (fun _ => none) → News h₀ L h [(ln, lstN ys), (L + 1 + 1 + 1 + 1 + 1 + 1, o6), (L + 1 + 1 + 1 + 1 + 1, o5), (L + 1 + 1 + 1 + 1, o4)] →
      wpP Clean (model PySem.Challenge.rw_pd0128_01.row.prog w) (callerA.deeper (envOfC (Str.ofString "law") lawScope L fa cd)) (execs (lawBody.drop 3) (envOfC (Str.ofString "law") lawScope L fa cd)) Q (fun _ _ => False) { s with heap := h, toks := tk }) :
    wpP Clean (model PySem.Challenge.rw_pd0128_01.row.prog w) (callerA.deeper (envOfC (Str.ofString "law") lawScope L fa cd)) (execs lawBody (envOfC (Str.ofString "law") lawScope L fa cd)) Q (fun _ _ => False) s := by
  revert X
  k_fill
  intro X
  unfold lawBody lawScope lawRec
  dsimp only
  refine execsP ?_
  refine wpP.of_any ?_
  k_steps
  refine execsP ?_
  refine wpP.of_any ?_
  k_steps
  (with_reducible rename Fr _ _ _ _ => F₁)
  (with_reducible rename News _ _ _ _ => N₁)
  refine execsP ?_
  refine AssignP ?_
  refine eval_LCG clean_kept (by with_unfolding_all rfl) rfl (by decide) (by intro _; rfl) ?_
  refine wpP.of_any ?_
  k_steps
  dsimp only
  refine comp_rng clean_kept rfl (by decide) rfl (by rfl) (a := 0) (b := 8) (c := 1) (n := 8) rfl rfl (by assumption) (by assumption) (by assumption) (by decide) (fun i ys nw => (∃ ns, BytesAre ys ns ∧ ns.length = i ∧ ∀ b ∈ ns, Kind b) ∧ nw = _) ?hlen ⟨⟨[], .nil, rfl, fun b hb => nomatch hb⟩, rfl⟩ ?turn ?fin
  case hlen =>
    rintro i ys nw ⟨⟨ns, hB, hl, _⟩, _⟩
    rw [hB.length, hl]
    exact Nat.le_refl _
  case turn =>
    rintro i t ys nw hi ⟨⟨ns, hB, hl, hK⟩, rfl⟩ h₁ tk₁ I oI C oC D m₂ off ne hoC hm₂ F₂ N₂
    refine Tests_nil ?_
    rw [if_pos rfl]
    refine wpP.of_any ?_
    k_steps
    all_goals (
      refine CEnd.intro _ (by assumption) (by assumption) (fun p hp => List.mem_cons_of_mem _ hp) off ⟨⟨ns ++ [_], hB.snoc, by simp [hl], fun b hb => ?_⟩, rfl⟩
      rcases List.mem_append.mp hb with hb | hb
      · exact hK b hb
      · rw [List.mem_singleton.mp hb]; assumption)
  case fin =>
    rintro ys nw ⟨⟨ns, hB, hl, hK⟩, rfl⟩
    refine CFin.eval ?_
    intro D h₂ tk₂ F₂ N₂ off
    have off := offN off
    simp only [OffN] at off
    k_steps
    refine k D ys ns _ _ _ hB hl hK (by assumption) off.2.2.1 off.2.2.2.1 off.2.2.2.2.1 (by assumption) ?_
    (with_reducible rename News _ _ _ _ => N9)
    intro p hp
    refine N9 p ?_
    simp only [List.mem_cons, List.not_mem_nil, or_false] at hp ⊢
    rcases hp with h | h | h | h <;> simp only [h, true_or, or_true]
end
theorem rules_L2 : True := by
  k_with_none
  k_with "m:call type:type" => (k_here; (with_reducible show wpAny _ _ (call (Value.type "type") [Value.bytes _ _]) _ _ _); (refine type_bytes ?_))
  k_with "m:call builtin:issubclass" => (k_here; (show wpAny _ _ (call (Value.builtin "issubclass") [Value.type "bytes", Value.ref _]) _ _ _); k_dflt (refine' issub_N (by (k_asm)) (by (k_mem)) ?_))
  k_with "m:mine:news" => first | assumption | (refine cb_drop (by assumption) ?_; intro p hp; repeat (first | exact hp | refine List.mem_cons_of_mem _ ?_))
  k_with "m:mine:size" => first | omega | (simp only [Array.size_append, List.size_toArray, List.length_cons, List.length_nil] at *; omega)
  k_with "m:getMethod bytes" => (k_here; (with_reducible first | refine meth FB.slot_bytes_startswith FB.type_bytes_startswith ?_ | refine meth FB.slot_bytes_endswith FB.type_bytes_endswith ?_ | refine meth slot_rfind type_rfind ?_ | refine meth slot_rstrip type_rstrip ?_ | refine meth slot_split type_split ?_ | refine meth slot_join type_join ?_))
  k_with "m:call builtin:bytes.startswith" => (k_here; (show wpAny _ _ (call (Value.builtin "bytes.startswith") [Value.bytes _ _, Value.bytes _ _]) _ _ _); (refine call_starts ?_))
  k_with "m:call builtin:bytes.endswith" => (k_here; (show wpAny _ _ (call (Value.builtin "bytes.endswith") [Value.bytes _ _, Value.bytes _ _]) _ _ _); (refine call_ends ?_))
  k_with "m:call builtin:bytes.rfind" => (k_here; (show wpAny _ _ (call (Value.builtin "bytes.rfind") [Value.bytes _ _, Value.bytes _ _]) _ _ _); (refine call_rfind ?_))
  k_with "m:call builtin:bytes.rstrip" => (k_here; (show wpAny _ _ (call (Value.builtin "bytes.rstrip") [Value.bytes _ _, Value.bytes _ _]) _ _ _); (refine call_rstrip (by walk_at "mine:size") ?_); intro _ _)
  k_with "m:truthy bytes" => (k_here; (with_reducible show wpAny _ _ (truthy (Value.bytes _ _)) _ _ _); (refine truthy_bytes (by walk_at "mine:size") ?_))
  k_with "m:call builtin:len" => (k_here; (show wpAny _ _ (call (Value.builtin "len") [Value.bytes _ _]) _ _ _); (refine len_bytes (by walk_at "mine:size") ?_))
  k_with "m:subscriptTail" => (k_here; (with_reducible show wpAny _ _ (subscriptTail _ (Expr.Slice _ _ none _) (Value.bytes _ _) (Value.ref _)) _ _ _); (with_reducible rename Fr _ _ _ _ => F'); (with_reducible rename News _ _ _ _ => N'); (refine slice_B (s := ⟨_, _, _, _, _⟩) F' N' (by constructor) (by constructor) (by walk_at "mine:size") ?_); intro _ _ _ F' N' hsz')
  k_with "m:binaryOp Mult bytes int" => (k_here; (with_reducible show wpAny _ _ (binaryOp Operator.Mult (Value.bytes _ _) (Value.int _ _)) _ _ _); (refine mul_one (by omega) (by walk_at "mine:size") ?_); intro _ _)
  k_with "m:binaryOp Add bytes bytes" => (k_here; (with_reducible show wpAny _ _ (binaryOp Operator.Add (Value.bytes _ _) (Value.bytes _ _)) _ _ _); (refine KBy.add_bytes (by walk_at "mine:size") ?_); intro _ _)
  k_with "m:compareOp NotEq bytes bytes" => (k_here; (refine ne_bytes ?_))
  k_with "m:compareOp Eq bytes bytes" => (k_here; (refine eq_bytes ?_))
  k_with "m:exec Try" => (k_here; (refine Try_calm ?_))
  k_with "m:mine:passes_own" => exact fun _ _ h => (show False from h).elim
  k_with "m:inplaceOp Add" => (k_here; (with_reducible show wpAny _ _ (inplaceOp Operator.Add (Value.bytes _ _) (Value.bytes _ _)) _ _ _); (refine iadd_bytes (by walk_at "mine:size") ?_); intro _ _)
  k_with "m:call builtin:bytes.split" => (k_here; (show wpAny _ _ (call (Value.builtin "bytes.split") [Value.bytes _ _, Value.bytes _ _]) _ _ _); k_dflt (refine' call_split1 (by (k_asm)) (by (k_asm)) (by (walk_at "mine:size")) ?_); intro l' h' vs' k' hv' hn' F' N' l1'; (try dsimp only))
  k_with "m:call builtin:len" => (k_here; (show wpAny _ _ (call (Value.builtin "len") [Value.ref _]) _ _ _); k_dflt (refine' len_L (by (k_asm)) (by (k_mem)) (by (omega)) ?_); intro _ _)
  k_with "m:mine:at" => with_reducible (first | exact At.here | assumption | exact At.skip (by decide) (by walk_at "mine:at"))
  k_with "m:eval Name" => (k_here; (with_reducible fail_if_success show wpAny _ _ (eval _ (compEnvC _ _ _ _)) _ _ _); (with_reducible fail_if_success show wpAny _ _ (eval _ (compEnv _ _ _)) _ _ _); (with_reducible fail_if_success show wpAny _ _ (eval _ (envOfC _ _ _ _ _)) _ _ _); (with_reducible rename At _ _ _ => hAt'); k_dflt (refine' ld (by (k_asm)) (by (change At _ _ _; walk_at "mine:at")) ?_))
  k_with "m:loadName" => (k_here; (with_reducible fail_if_success show wpAny _ _ (loadName (envOfC _ _ _ _ _) _) _ _ _); (with_reducible rename At _ _ _ => hAt'); k_dflt (refine' ldn (by (k_asm)) (by (change At _ _ _; walk_at "mine:at")) ?_))
  k_with "m:subscriptTail" => (k_here; (with_reducible show wpAny _ _ (subscriptTail _ _ (Value.ref _) (Value.int (-1) _)) _ _ _); k_dflt (refine' item_last (by (k_asm)) (by (k_mem)) ?_))
  k_with "m:call ref" => (k_here; (with_reducible show wpAny _ _ (call (Value.ref 94) [Value.bytes _ _]) _ _ _); k_dflt (refine' Claim.use (fspath_ok _ _) (by (k_asm)) (by (k_asm)) (by (k_asm)) (by (k_asm)) (by (k_asm)) (by (first | exact rfl | assumption)) (by (ktr_room)) (by (ktr_units)) ?_); intro v h' tk' hv F' N'; subst hv; (try dsimp only); (try k_fold))
  k_with "m:call ref" => (k_here; (with_reducible show wpAny _ _ (call (Value.ref 108) [Value.bytes _ _]) _ _ _); k_dflt (refine' Claim.use (get_sep_ok _ _) (by (k_asm)) (by (k_asm)) (by (k_asm)) (by (k_asm)) (by (k_asm)) (by (first | exact rfl | assumption)) (by (ktr_room)) (by (ktr_units)) ?_); intro v h' tk' hv F' N'; (obtain ⟨t9, hv⟩ := hv); subst hv; (try dsimp only); (try k_fold))
  k_with "m:call ref" => (k_here; (with_reducible show wpAny _ _ (call (Value.ref 122) [Value.bytes _ _]) _ _ _); k_dflt (refine' Claim.use (dirname_ok _ _ (by (walk_at "mine:size"))) (by (k_asm)) (by (k_asm)) (by (k_asm)) (by (k_asm)) (by (k_asm)) (by (first | exact rfl | assumption)) (by (ktr_room)) (by (ktr_units)) ?_); intro v h' tk' hv F' N'; (obtain ⟨t9, hv⟩ := hv); subst hv; (try dsimp only); (try k_fold))
  k_with "m:call ref" => (k_here; (with_reducible show wpAny _ _ (call (Value.ref 127) [Value.ref _]) _ _ _); k_dflt (refine' common_use (by (k_asm)) (by (k_asm)) (by (k_asm)) (by (k_asm)) (by (k_asm)) (by (first | exact rfl | assumption)) (by (walk_at "mine:size")) (by (walk_at "mine:size")) (by (assumption)) (by (assumption)) (by (ktr_room)) (by (ktr_units)) ?_); intro v h' tk' hv F' N'; (obtain ⟨t9, hv⟩ := hv); subst hv; (try dsimp only); (try k_fold))
  k_with "m:mine:k_all" => ((with_reducible rename Lts _ _ => hL8); exact Lts.ne hL8 (by omega))
  k_with "m:eval Name" => (k_here; (with_reducible show wpAny _ _ (eval _ (envOfC _ _ _ _ _)) _ _ _); (with_reducible rename At _ _ _ => hAt'); k_dflt (refine' nameX_L (by (k_asm)) (by (change At _ _ _; walk_at "mine:at")) ?_ (by (rfl)) (by (rfl))))
  k_with "m:call ref" => (k_here; (with_reducible show wpAny _ _ (call (PySem.Value.ref 115) [PySem.Value.bytes _ _, PySem.Value.bytes _ _]) _ _ _); k_dflt (refine' Claim.use (cn := Str.ofString "law") (join_ok _ _ _ _ (by (assumption)) (by (assumption))) (by (k_asm)) (by (k_asm)) (by (k_asm)) (by (k_asm)) (by (k_asm)) (by (first | exact rfl | assumption)) (by (ktr_room)) (by (ktr_units)) ?_); intro v h' tk' hv F' N'; (obtain ⟨t9, hv⟩ := hv); subst hv; (try dsimp only); (try k_fold))
  k_with "m:call ref" => (k_here; (with_reducible show wpAny _ _ (call (PySem.Value.ref 148) [PySem.Value.bytes _ _]) _ _ _); k_dflt (refine' ClaimL.use' (cn := Str.ofString "law") (climb_ok _ _ (by (assumption))) (by (k_asm)) (by (k_asm)) (by (k_asm)) (by (k_asm)) (by (k_asm)) (by (first | exact rfl | assumption)) (by (ktr_room)) (by (ktr_units)) ?_); intro l ws n h' tk' hv F' N' l1; (try dsimp only); (try k_fold))
  trivial
theorem ClaimL.use' {D U : Nat} {f : Addr} {vs : List PySem.Value} {R : List PySem.Value → Prop} (C : ClaimL D U f vs R) {w : World} {mean : ExcName → Option PySem.Value} {mg mb : Str → Option PySem.Value} {news : List (Addr × Obj)} {dp un : Nat} {gd : Option (List Code)} {cn : Str} {cs : Scope} {a : Addr} {ccd : PySem.Value} {cl : List (Str × Addr)} {outer : List Env} {A₀ : Around} {base h₀ : Heap} {L : Addr} {m : Str → Option PySem.Value} {s : Shared} {Q E : PySem.Value → Shared → Prop}
    (B : Below A₀ base outer h₀) (F : Fr h₀ L s.heap m) (X : (Mine.lawK w.params).In h₀) (N : News h₀ L s.heap news) (T : Top Mine.hd.view_1_2 (looseW Mine.hd.view_1_2 []) mean mg mb h₀) (hk : cs.kind = .function)
    (hd : dp + D < recursionLimit) (hu : un + U < cLine)
    (h : ∀ (l : Addr) (ws : List PySem.Value) (n : Nat) (h' : Heap) (tk' : Nat), R ws → Fr h₀ L h' m → News h₀ L h' ((l, listOf ws.toArray n) :: news) → (∀ p ∈ news, p.1 < l) → Q (.ref l) { s with heap := h', toks := tk' }) :
    wpAny (model PySem.Challenge.rw_pd0128_01.row.prog w) (ktrTop dp un gd cn cs L a ccd cl outer) (call (.ref f) vs) Q E s :=
  C w ⟨mean, mg, mb, dp, un, gd, cn, cs, a, ccd, cl, outer, A₀, base, h₀, L, m⟩ news s Q E ⟨⟨B, X, T, hk, hd, hu⟩, F, N⟩ h
section
/-- the path: the names joined -/
noncomputable def pathOf (ns : List (Array UInt8)) : Array UInt8 := ns.foldl joinRaw #[]
theorem joinRaw_size (b c : Array UInt8) : (joinRaw b c).size ≤ b.size + c.size + 1 := by
  unfold joinRaw
  split
  · omega
  · split
    · omega
    · split <;> simp only [Array.size_append, List.size_toArray, List.length_cons, List.length_nil] <;> omega
theorem Kind.size {b : Array UInt8} (h : Kind b) : b.size ≤ 3 := by
  rcases h with rfl | rfl | rfl | rfl <;> decide
theorem path_fold_size : ∀ (ns : List (Array UInt8)) (b : Array UInt8), (∀ c ∈ ns, Kind c) → (ns.foldl joinRaw b).size ≤ b.size + 4 * ns.length
  | [], b, _ => Nat.le_add_right _ _
  | c :: ns, b, h => by
    have h1 := path_fold_size ns (joinRaw b c) fun c hc => h c (List.mem_cons_of_mem _ hc)
    have h2 := joinRaw_size b c
    have h3 := (h c List.mem_cons_self).size
    rw [List.foldl_cons, List.length_cons]
    omega
theorem pathOf_size {ns : List (Array UInt8)} (h : ∀ c ∈ ns, Kind c) : (pathOf ns).size ≤ 4 * ns.length := by
  have := path_fold_size ns #[] h
  unfold pathOf
  simpa using this
theorem pathOf_step (ns : List (Array UInt8)) (i : Nat) (hi : i < ns.length) : pathOf (ns.take (i + 1)) = joinRaw (pathOf (ns.take i)) (ns.getD i #[]) := by
  unfold pathOf
  rw [List.take_add_one, List.foldl_append, List.getElem?_eq_getElem hi, List.getD_eq_getElem?_getD, List.getElem?_eq_getElem hi]
  rfl
set_option maxRecDepth 100000 in
set_option maxHeartbeats 4000000 in
theorem law_s2 (w : World) (mean : ExcName → Option PySem.Value) (mg mb : Str → Option PySem.Value) (h₀ : Heap) (L fa ln : Addr) (cd : PySem.Value) (ys : List PySem.Value) (ns : List (Array UInt8)) (o4 o5 o6 : Obj) (s : Shared) (Q : Flow → Shared → Prop)
    (B : Below callerA h₀ [] h₀) (X : (Mine.lawK w.params).In h₀) (T : Top Mine.hd.view_1_2 (looseW Mine.hd.view_1_2 []) mean mg mb h₀)
    (hB : BytesAre ys ns) (hl : ns.length = 8) (hK : ∀ b ∈ ns, Kind b)
    (d4 : o4.data = .cell (some (.ref ln)))
    (F : Fr h₀ L s.heap (fun _ => none)) (N : News h₀ L s.heap [(ln, lstN ys), (L + 1 + 1 + 1 + 1 + 1 + 1, o6), (L + 1 + 1 + 1 + 1 + 1, o5), (L + 1 + 1 + 1 + 1, o4)])
    (k : ∀ (m : Str → Option PySem.Value) (t : Tok) (lc : Addr) (ws : List PySem.Value) (n : Nat) (h : Heap) (tk : Nat), BytesAre ws (climbL (pathOf ns) 8) → At m (Str.ofString "path") (.bytes (pathOf ns) t) → At m (Str.ofString "climb") (.ref lc) →
      (∀ p ∈ [(ln, lstN ys), (L + 1 + 1 + 1 + 1 + 1 + 1, o6), (L + 1 + 1 + 1 + 1 + 1, o5), (L + 1 + 1 + 1 + 1, o4)], p.1 < lc) →
      Fr h₀ L h m → News h₀ L h [(lc, listOf ws.toArray n), (ln, lstN ys), (L + 1 + 1 + 1 + 1 + 1 + 1, o6), (L + 1 + 1 + 1 + 1 + 1, o5), (L + 1 + 1 + 1 + 1, o4)] →
      wpP Clean (model PySem.Challenge.rw_pd0128_01.row.prog w) (callerA.deeper (envOfC (Str.ofString "law") lawScope L fa cd)) (execs (lawBody.drop 6) (envOfC (Str.ofString "law") lawScope L fa cd)) Q (fun _ _ => False) { s with heap := h, toks := tk }) :
    wpP Clean (model PySem.Challenge.rw_pd0128_01.row.prog w) (callerA.deeper (envOfC (Str.ofString "law") lawScope L fa cd)) (execs (lawBody.drop 3) (envOfC (Str.ofString "law") lawScope L fa cd)) Q (fun _ _ => False) s := by
  revert X
  k_fill
  intro X
  unfold lawBody lawScope lawRec at k ⊢
  dsimp only [List.drop] at k ⊢
  refine execsP ?_
  refine wpP.of_any ?_
  k_steps
  (with_reducible rename Fr _ _ _ _ => F₁)
  (with_reducible rename News _ _ _ _ => N₁)
  have hA := Fr_here F₁
  refine execsP ?_
  have hyl : ys.length = 8 := hB.length.trans hl
  refine For_lst clean_kept rfl F₁ N₁ (a := ln) (vs := ys) (k := ys.length) List.mem_cons_self ?hx (fun i m' nw => (∃ t, At m' (Str.ofString "path") (.bytes (pathOf (ns.take i)) t)) ∧ nw = [(ln, lstN ys), (L + 1 + 1 + 1 + 1 + 1 + 1, o6), (L + 1 + 1 + 1 + 1 + 1, o5), (L + 1 + 1 + 1 + 1, o4)]) ?hkeep ⟨⟨_, hA⟩, rfl⟩ ?turn ?fin
  case hx =>
    k_steps
    all_goals exact ⟨rfl, rfl⟩
  case hkeep =>
    rintro i m nw ⟨_, rfl⟩
    exact List.mem_cons_self
  case turn =>
    rintro i v m₁ news₁ h₁ tk₁ I oI hv ⟨⟨t, hP⟩, rfl⟩ off F₂ N₂
    have hi : i < ns.length := by
      rw [← hB.length]; exact (List.getElem?_eq_some_iff.mp hv).1
    obtain ⟨t2, ht2⟩ := bytes_nth i hB hi
    obtain rfl : .bytes (ns.getD i #[]) t2 = v := Option.some.inj (ht2.symm.trans hv)
    clear hA F₁ N₁
    have hz1 : (pathOf (ns.take i)).size ≤ 1000 := by
      have := pathOf_size (ns := ns.take i) fun c hc => hK c (List.mem_of_mem_take hc)
      have := List.length_take_le' i ns
      omega
    have hz2 : (ns.getD i #[]).size ≤ 1000 := by
      have : ns.getD i #[] = ns[i] := getD_at hi
      rw [this]
      have := (hK _ (List.getElem_mem hi)).size
      omega
    refine wpAny_assign_Name ?_
    k_steps
    refine wpP.of_any ?_
    k_steps
    all_goals (try k_data)
    refine UnrEnd.intro (by assumption) (by assumption) _ (fun p hp => hp) off ⟨⟨_, by rw [pathOf_step ns i hi]; exact At.here⟩, rfl⟩
  case fin =>
    rintro h' tk m' news' F₂ N₂ ⟨⟨t, hP⟩, rfl⟩
    have hP : At m' (Str.ofString "path") (.bytes (pathOf ns) t) := by rw [hyl, ← hl, List.take_length] at hP; exact hP
    have hz : (pathOf ns).size ≤ 1000 := by
      have := pathOf_size hK
      omega
    clear hA F₁ N₁
    refine execsP ?_
    refine wpP.of_any ?_
    k_steps
    all_goals (try k_data)
    refine k _ t _ _ _ _ _ (by assumption) ?_ At.here (by assumption) (by assumption) (by assumption)
    exact At.skip (by decide) (by assumption)
end
section
open PySem PySem.W PyProof.Rows PySem.Calls

open PySem.Builtin
theorem J_nil : J [] = #[] := rfl
theorem J_one (x : Array UInt8) : J [x] = x := by unfold J; rw [joined_cons]; rfl
theorem J_snoc {xs : List (Array UInt8)} (h : xs ≠ []) (n : Array UInt8) : J (xs ++ [n]) = J xs ++ (#[47] ++ n) := by
  cases xs with
  | nil => exact absurd rfl h
  | cons b bs =>
    unfold J
    rw [List.cons_append, joined_cons, joined_cons, List.foldl_append, List.foldl_cons, List.foldl_nil, Array.append_assoc]
theorem J_cons {xs : List (Array UInt8)} (h : xs ≠ []) (n : Array UInt8) : J (n :: xs) = n ++ (#[47] ++ J xs) := by
  cases xs with
  | nil => exact absurd rfl h
  | cons b bs =>
    apply Array.toList_inj.mp
    unfold J
    rw [joined_toList, Array.toList_append, Array.toList_append, joined_toList]
    simp
theorem J_rev : ∀ xs : List (Array UInt8), (J xs).reverse = J (xs.reverse.map Array.reverse)
  | [] => by simp [J_nil]
  | [x] => by simp [J_one]
  | x :: y :: ys => by
    rw [J_cons (by simp), Array.reverse_append, Array.reverse_append, J_rev (y :: ys), List.reverse_cons (a := x), List.map_append, List.map_singleton, J_snoc (by simp), Array.append_assoc]
    rfl
/-- of a good name's octets none is a slash -/
theorem good_at {n : Array UInt8} (h : Good n) (i : Nat) (hi : i < n.size) : n[i] ≠ 47 := h.no _ (Array.getElem_mem_toList hi)
theorem ends_good {pre n : Array UInt8} (h : Good n) : endsRaw (pre ++ n) #[47] = false := by
  have h1 := h.pos
  unfold endsRaw
  split
  · rfl
  · have hz : (pre ++ n).size - (#[47] : Array UInt8).size + (#[47] : Array UInt8).size = (pre ++ n).size := by simp; omega
    have := one_at (pre ++ n) ((pre ++ n).size - (#[47] : Array UInt8).size) (by simp; omega)
    rw [hz] at this
    rw [this]
    have e : (pre ++ n)[(pre ++ n).size - (#[47] : Array UInt8).size]'(by simp; omega) = n[n.size - 1] := by
      rw [Array.getElem_append_right (by simp; omega)]
      congr 1
      simp; omega
    rw [e]
    simpa using good_at h (n.size - 1) (by omega)
theorem starts_good {post n : Array UInt8} (h : Good n) : startsRaw (n ++ post) #[47] = false := by
  have h1 := h.pos
  unfold startsRaw
  split
  · rfl
  · have := one_at (n ++ post) 0 (by simp; omega)
    rw [this]
    rw [Array.getElem_append_left h1]
    simpa using good_at h 0 h1
theorem starts_good' {n : Array UInt8} (h : Good n) : startsRaw n #[47] = false := by
  have := starts_good (post := #[]) h
  rwa [Array.append_empty] at this
theorem snoc_of {xs : List (Array UInt8)} (h : xs ≠ []) : ∃ ys n, xs = ys ++ [n] := ⟨xs.dropLast, xs.getLast h, (List.dropLast_concat_getLast h).symm⟩
theorem J_end {xs : List (Array UInt8)} (h : xs ≠ []) (hg : ∀ x ∈ xs, Good x) : ∃ pre n, Good n ∧ J xs = pre ++ n := by
  obtain ⟨ys, n, rfl⟩ := snoc_of h
  have hn := hg n (by simp)
  by_cases hy : ys = []
  · subst hy
    exact ⟨#[], n, hn, by rw [List.nil_append, J_one]; simp⟩
  · exact ⟨J ys ++ #[47], n, hn, by rw [J_snoc hy, Array.append_assoc]⟩
theorem J_pos {xs : List (Array UInt8)} (h : xs ≠ []) (hg : ∀ x ∈ xs, Good x) : 0 < (J xs).size := by
  obtain ⟨pre, n, hn, e⟩ := J_end h hg
  rw [e, Array.size_append]
  have := hn.pos
  omega
theorem join_J {xs : List (Array UInt8)} {n : Array UInt8} (hg : ∀ x ∈ xs, Good x) (hn : Good n) : joinRaw (J xs) n = J (xs ++ [n]) := by
  unfold joinRaw
  rw [if_neg (by rw [starts_good' hn]; decide)]
  by_cases h : xs = []
  · subst h
    rw [if_pos (by rfl), List.nil_append, J_one]
  · have h1 := J_pos h hg
    rw [if_neg (by omega)]
    obtain ⟨pre, n', hn', e⟩ := J_end h hg
    rw [if_neg (by rw [e, ends_good hn']; decide), J_snoc h]
theorem path_J : ∀ (ns xs : List (Array UInt8)), (∀ x ∈ xs, Good x) → (∀ x ∈ ns, Good x) → ns.foldl joinRaw (J xs) = J (xs ++ ns)
  | [], xs, _, _ => by simp
  | n :: ns, xs, hx, hn => by
    rw [List.foldl_cons, join_J hx (hn n List.mem_cons_self), path_J ns (xs ++ [n]) (fun x h => by
      rcases List.mem_append.mp h with h | h
      · exact hx x h
      · rw [List.mem_singleton.mp h]; exact hn n List.mem_cons_self) fun x h => hn x (List.mem_cons_of_mem _ h)]
    simp
/-- the last place that passes -/
theorem last_range {f : Nat → Bool} {p : Nat} : ∀ {N : Nat}, p < N → f p = true → (∀ j, p < j → j < N → f j = false) → (List.range N).reverse.find? f = some p
  | 0, h, _, _ => by omega
  | N + 1, h, hp, hj => by
    rw [List.range_succ, List.reverse_append, List.reverse_singleton, List.singleton_append, List.find?_cons]
    by_cases e : p = N
    · subst e; rw [hp]
    · rw [hj N (by omega) (by omega)]
      exact last_range (by omega) hp fun j h1 h2 => hj j h1 (by omega)
theorem rfind_list (b : Array UInt8) (hb : 0 < b.size) : rfindRaw b #[47] = match (List.range b.size).reverse.find? (fun i => b.extract i (i + (#[47] : Array UInt8).size) == #[47]) with
  | some i => (i : Int)
  | none => -1 := by
  unfold rfindRaw
  rw [if_neg (by simp; omega)]
  show (match Bytes.rfind? b #[47] (0 : Int).toNat (b.size : Int).toNat with | some i => (i : Int) | none => -1) = _
  unfold Bytes.rfind?
  have h1 : (b.size : Int).toNat + 1 - ((0 : Int).toNat + (#[47] : Array UInt8).size) = b.size := by simp
  have h2 : (List.range b.size).map (· + (0 : Int).toNat) = List.range b.size := by simp
  rw [h1, h2]
theorem rfind_no {n : Array UInt8} (h : Good n) : rfindRaw n #[47] = -1 := by
  rw [rfind_list n h.pos, List.find?_eq_none.mpr]
  intro i hi
  have hi : i < n.size := by simpa using hi
  rw [one_at n i hi]
  simpa using good_at h i hi
theorem rfind_at {pre n : Array UInt8} (h : Good n) : rfindRaw (pre ++ (#[47] ++ n)) #[47] = pre.size := by
  have hz : (pre ++ (#[47] ++ n)).size = pre.size + (1 + n.size) := by simp; omega
  rw [rfind_list _ (by omega), last_range (p := pre.size) (by omega)]
  · rw [one_at _ _ (by omega), Array.getElem_append_right (by omega)]
    simp
  · intro j h1 h2
    rw [one_at _ _ h2, Array.getElem_append_right (by omega), Array.getElem_append_right (by simp; omega)]
    have := good_at h (j - pre.size - (#[47] : Array UInt8).size) (by simp; omega)
    simpa using this
theorem picked_to (b : Array UInt8) (k : Nat) (hk : k ≤ b.size) : KBy.picked b none (some (k : Int)) = (b.toList.take k).toArray := by
  rw [KBc.picked_eq]
  show ((b.toList.drop 0).take (clipAt b.size (k : Int) - 0)).toArray = _
  rw [clipAt_nat, Nat.min_eq_left hk]
  simp
theorem dir_J {xs : List (Array UInt8)} (hg : ∀ x ∈ xs, Good x) : dirRaw (J xs) = J xs.dropLast := by
  by_cases h : xs = []
  · subst h; decide +kernel
  obtain ⟨ys, n, rfl⟩ := snoc_of h
  have hn := hg n (by simp)
  have hy : ∀ x ∈ ys, Good x := fun x hx => hg x (by simp [hx])
  rw [List.dropLast_concat]
  by_cases h' : ys = []
  · subst h'
    rw [List.nil_append, J_one]
    have e : KBy.picked n none (some (rfindRaw n #[47] + 1)) = #[] := by
      rw [rfind_no hn]
      have := picked_to n 0 (Nat.zero_le _)
      simpa using this
    unfold dirRaw
    rw [e]
    rfl
  · rw [J_snoc h']
    have e : KBy.picked (J ys ++ (#[47] ++ n)) none (some (rfindRaw (J ys ++ (#[47] ++ n)) #[47] + 1)) = J ys ++ #[47] := by
      rw [rfind_at hn]
      have hz : (J ys ++ (#[47] ++ n)).size = (J ys).size + (1 + n.size) := by simp; omega
      have := picked_to (J ys ++ (#[47] ++ n)) ((J ys).size + 1) (by omega)
      rw [Int.natCast_add] at this
      rw [show ((J ys).size : Int) + 1 = ((J ys).size : Int) + ((1 : Nat) : Int) from rfl, this]
      apply Array.toList_inj.mp
      have : (J ys).size + 1 = (J ys ++ #[47]).toList.length := by simp
      rw [← Array.append_assoc, this, Array.toList_append (xs := J ys ++ #[47]), List.take_left]
    unfold dirRaw
    rw [e]
    obtain ⟨pre, n', hn', ej⟩ := J_end h' hy
    have hsz : (J ys ++ #[47]).size = (J ys).size + 1 := by simp
    obtain ⟨c, l, hc⟩ : ∃ c l, n'.toList.reverse = c :: l := by
      cases hr : n'.toList.reverse with
      | nil => exact absurd (by simpa using hr) hn'.1
      | cons c l => exact ⟨c, l, rfl⟩
    have hcm : c ∈ n'.toList := by rw [← List.mem_reverse, hc]; exact List.mem_cons_self
    have hc47 := hn'.no c hcm
    rw [if_neg (by rw [hsz]; omega), if_pos]
    · apply Array.toList_inj.mp
      show rstripRaw _ _ = _
      unfold rstripRaw
      rw [Array.toList_append, List.reverse_append, ej, Array.toList_append, List.reverse_append, hc]
      have h1 : (#[47] : Array UInt8).contains (47 : UInt8) = true := by simp
      have h2 : (#[47] : Array UInt8).contains c = false := by simpa using hc47
      show ((47 :: (c :: l ++ pre.toList.reverse)).dropWhile (#[47] : Array UInt8).contains).reverse = _
      rw [List.dropWhile_cons_of_pos h1, List.cons_append, List.dropWhile_cons_of_neg (by rw [h2]; decide), ← List.cons_append, ← hc]
      simp
    · rw [bne_iff_ne]
      intro he
      have : c ∈ (List.replicate ((J ys ++ #[47]).size : Int).toNat (47 : UInt8)).toArray.toList := by
        rw [← he, ej]
        simp only [Array.toList_append, List.mem_append]
        exact .inl (.inr hcm)
      exact hc47 (List.eq_of_mem_replicate this)
theorem dirIter_J {xs : List (Array UInt8)} (hg : ∀ x ∈ xs, Good x) : ∀ k, dirIter (J xs) k = J (xs.take (xs.length - k))
  | 0 => by simp [dirIter]
  | k + 1 => by
    rw [dirIter, dirIter_J hg k, dir_J fun x hx => hg x (List.mem_of_mem_take hx), List.dropLast_eq_take, List.take_take, List.length_take, Nat.min_eq_left (Nat.sub_le _ k), Nat.min_eq_left (Nat.sub_le _ 1), Nat.sub_sub]
theorem climb_J {xs : List (Array UInt8)} (hg : ∀ x ∈ xs, Good x) (k : Nat) : climbL (J xs) k = (List.range (k + 1)).map fun i => J (xs.take (xs.length - i)) := by
  unfold climbL
  exact List.map_congr_left fun i _ => dirIter_J hg i
theorem shared_J {xs ys : List (Array UInt8)} (hx : ∀ x ∈ xs, Good x) (hy : ∀ x ∈ ys, Good x) : sharedRaw (J xs) (J ys) = J (lcp xs ys) := by
  unfold sharedRaw
  rw [commonJ hx hy]
  rfl
theorem fold_size3 (sep : Array UInt8) : ∀ (bs : List (Array UInt8)) (b : Array UInt8), (∀ x ∈ bs, x.size ≤ 3) → (bs.foldl (fun a x => (a ++ sep) ++ x) b).size ≤ b.size + (sep.size + 3) * bs.length
  | [], b, _ => by simp
  | x :: bs, b, h => by
    rw [List.foldl_cons]
    have h1 := fold_size3 sep bs ((b ++ sep) ++ x) fun y hy => h y (List.mem_cons_of_mem _ hy)
    have h2 := h x List.mem_cons_self
    simp only [Array.size_append] at h1
    rw [List.length_cons, Nat.mul_add]
    omega
theorem joined_size3 {sep : Array UInt8} {bs : List (Array UInt8)} (h : ∀ x ∈ bs, x.size ≤ 3) : (Bytes.joined sep bs).size ≤ (sep.size + 3) * bs.length := by
  cases bs with
  | nil => simp [joined_nil]
  | cons b bs =>
    rw [joined_cons]
    have h1 := fold_size3 sep bs b fun x hx => h x (List.mem_cons_of_mem _ hx)
    have h2 := h b List.mem_cons_self
    rw [List.length_cons, Nat.mul_add]
    omega
/-- a good name of at most three octets -/
noncomputable def Name (b : Array UInt8) : Prop := Good b ∧ b.size ≤ 3
theorem Name.rev {b : Array UInt8} (h : Name b) : Name b.reverse := ⟨h.1.rev, by simpa using h.2⟩
theorem J_size {xs : List (Array UInt8)} (h : ∀ x ∈ xs, Name x) : (J xs).size ≤ 4 * xs.length := joined_size3 fun x hx => (h x hx).2
theorem parts_size {sep : Array UInt8} (hs : sep.size ≤ 3) {xs : List (Array UInt8)} (h : ∀ x ∈ xs, Name x) (hl : xs.length ≤ 100) : (Bytes.joined sep (splitRaw (J xs) #[47])).size ≤ 1000 := by
  rw [J_split fun x hx => (h x hx).1]
  split
  · exact Nat.le_trans (joined_size3 (by simp)) (by simp; omega)
  · refine Nat.le_trans (joined_size3 fun x hx => (h x hx).2) ?_
    exact Nat.le_trans (Nat.mul_le_mul (show sep.size + 3 ≤ 6 by omega) hl) (by decide)
theorem parts_start {sep : Array UInt8} {xs : List (Array UInt8)} (h : ∀ x ∈ xs, Good x) : startsRaw (Bytes.joined sep (splitRaw (J xs) #[47])) #[47] = false := by
  rw [J_split h]
  cases xs with
  | nil =>
    rw [if_pos rfl, joined_cons]
    show startsRaw #[] #[47] = false
    decide +kernel
  | cons b bs =>
    rw [if_neg (by simp)]
    have : Bytes.joined sep (b :: bs) = b ++ (bs.flatMap fun x => sep.toList ++ x.toList).toArray := by
      apply Array.toList_inj.mp
      rw [joined_toList, Array.toList_append]
    rw [this]
    exact starts_good (h b List.mem_cons_self)
/-- the number of names of a path -/
theorem size_J {xs : List (Array UInt8)} (h : ∀ x ∈ xs, Good x) : (if (J xs).size = 0 then (0 : Int) else ((splitRaw (J xs) #[47]).length : Int)) = xs.length := by
  by_cases e : xs = []
  · subst e; rfl
  · have := J_pos e h
    rw [if_neg (by omega), J_split h, if_neg e]
end
section
open PySem PySem.W PyProof.Rows PySem.Calls
set_option maxRecDepth 100000

/-- values that are names, eight at most -/
noncomputable def NamesAre (vs : List PySem.Value) (bs : List (Array UInt8)) : Prop := BytesAre vs bs ∧ (∀ b ∈ bs, Name b) ∧ bs.length ≤ 8
theorem NamesAre.len {vs : List PySem.Value} {bs : List (Array UInt8)} (h : NamesAre vs bs) : vs.length ≤ 8 := by rw [h.1.length]; exact h.2.2
theorem NamesAre.sub {vs us : List PySem.Value} {bs cs : List (Array UInt8)} (h : NamesAre vs bs) (hB : BytesAre us cs) (hs : ∀ b ∈ cs, b ∈ bs) (hl : cs.length ≤ bs.length) : NamesAre us cs :=
  ⟨hB, fun b hb => h.2.1 b (hs b hb), Nat.le_trans hl h.2.2⟩
section
variable {prog : Program} {w : World} {A : Around} {E : PySem.Value → Shared → Prop} {s : Shared} {h₀ : Heap} {L : Addr} {m : Str → Option PySem.Value} {news : List (Addr × Obj)} {value slice : PySem.Expr}
theorem pickI_upto (vs : List PySem.Value) {x : Int} (h : 0 ≤ x) : kms_pick vs none (some x) = vs.take x.toNat := by
  have := pick_upto vs x.toNat
  rwa [Int.toNat_of_nonneg h] at this
theorem pickI_from (vs : List PySem.Value) {x : Int} (h : 0 ≤ x) : kms_pick vs (some x) none = vs.drop x.toNat := by
  have := pick_from vs x.toNat
  rwa [Int.toNat_of_nonneg h] at this
theorem pickI_both (vs : List PySem.Value) {x y : Int} (h : 0 ≤ x) (h' : 0 ≤ y) (hy : y ≤ vs.length) : kms_pick vs (some x) (some y) = (vs.take y.toNat).drop x.toNat := by
  have := pick_both vs x.toNat y.toNat (by omega)
  rwa [Int.toNat_of_nonneg h, Int.toNat_of_nonneg h'] at this
theorem slice_upN {a : Addr} {vs : List PySem.Value} {bs : List (Array UInt8)} {n : Nat} {vu : PySem.Value} {x : Int} {Q : PySem.Value → Shared → Prop} (F : Fr h₀ L s.heap m) (N : News h₀ L s.heap news) (hm : (a, listOf vs.toArray n) ∈ news) (hB : NamesAre vs bs) (pu : IsPart vu (some x)) (hx : 0 ≤ x)
    (h : ∀ D h' us, NamesAre us (bs.take x.toNat) → Fr h₀ L h' m → News h₀ L h' ((D, listOf us.toArray 0) :: news) → (∀ p ∈ news, p.1 < D) → Q (.ref D) { s with heap := h' })
    (hs : subscripted slice false (.ref a) (.ref s.heap.objs.size) = operate [.ref s.heap.objs.size, .ref a] (getItem (.ref a) (.ref s.heap.objs.size)) := by with_unfolding_all rfl)
    (ht : ∀ r, letTemporaryGo value (.ref a) r = pure () := by intro _; with_unfolding_all rfl) :
    wpAny (model prog w) A (subscriptTail value slice (.ref a) (.ref s.heap.objs.size)) Q E { s with heap := s.heap.push { cls := .type "slice", data := .fields #[.none, vu, .none] } } :=
  slice_LL F N hm (by constructor) pu (by have := hB.len; omega) (fun D h' F' N' l1 => h D h' _ (by rw [pickI_upto vs hx]; exact hB.sub (hB.1.take _) (fun b hb => List.mem_of_mem_take hb) (by rw [List.length_take]; omega)) F' N' l1) hs ht
theorem slice_fromN {a : Addr} {vs : List PySem.Value} {bs : List (Array UInt8)} {n : Nat} {vl : PySem.Value} {x : Int} {Q : PySem.Value → Shared → Prop} (F : Fr h₀ L s.heap m) (N : News h₀ L s.heap news) (hm : (a, listOf vs.toArray n) ∈ news) (hB : NamesAre vs bs) (pl : IsPart vl (some x)) (hx : 0 ≤ x)
    (h : ∀ D h' us, NamesAre us (bs.drop x.toNat) → Fr h₀ L h' m → News h₀ L h' ((D, listOf us.toArray 0) :: news) → (∀ p ∈ news, p.1 < D) → Q (.ref D) { s with heap := h' })
    (hs : subscripted slice false (.ref a) (.ref s.heap.objs.size) = operate [.ref s.heap.objs.size, .ref a] (getItem (.ref a) (.ref s.heap.objs.size)) := by with_unfolding_all rfl)
    (ht : ∀ r, letTemporaryGo value (.ref a) r = pure () := by intro _; with_unfolding_all rfl) :
    wpAny (model prog w) A (subscriptTail value slice (.ref a) (.ref s.heap.objs.size)) Q E { s with heap := s.heap.push { cls := .type "slice", data := .fields #[vl, .none, .none] } } :=
  slice_LL F N hm pl (by constructor) (by have := hB.len; omega) (fun D h' F' N' l1 => h D h' _ (by rw [pickI_from vs hx]; exact hB.sub (hB.1.drop _) (fun b hb => List.mem_of_mem_drop hb) (by rw [List.length_drop]; omega)) F' N' l1) hs ht
theorem slice_bothN {a : Addr} {vs : List PySem.Value} {bs : List (Array UInt8)} {n : Nat} {vl vu : PySem.Value} {x y : Int} {Q : PySem.Value → Shared → Prop} (F : Fr h₀ L s.heap m) (N : News h₀ L s.heap news) (hm : (a, listOf vs.toArray n) ∈ news) (hB : NamesAre vs bs) (pl : IsPart vl (some x)) (pu : IsPart vu (some y)) (hx : 0 ≤ x) (hy : 0 ≤ y) (hl : y ≤ bs.length)
    (h : ∀ D h' us, NamesAre us ((bs.take y.toNat).drop x.toNat) → Fr h₀ L h' m → News h₀ L h' ((D, listOf us.toArray 0) :: news) → (∀ p ∈ news, p.1 < D) → Q (.ref D) { s with heap := h' })
    (hs : subscripted slice false (.ref a) (.ref s.heap.objs.size) = operate [.ref s.heap.objs.size, .ref a] (getItem (.ref a) (.ref s.heap.objs.size)) := by with_unfolding_all rfl)
    (ht : ∀ r, letTemporaryGo value (.ref a) r = pure () := by intro _; with_unfolding_all rfl) :
    wpAny (model prog w) A (subscriptTail value slice (.ref a) (.ref s.heap.objs.size)) Q E { s with heap := s.heap.push { cls := .type "slice", data := .fields #[vl, vu, .none] } } :=
  slice_LL F N hm pl pu (by have := hB.len; omega) (fun D h' F' N' l1 => h D h' _ (by rw [pickI_both vs hx hy (by rw [hB.1.length]; exact hl)]; exact hB.sub ((hB.1.take _).drop _) (fun b hb => List.mem_of_mem_take (List.mem_of_mem_drop hb)) (by rw [List.length_drop, List.length_take]; omega)) F' N' l1) hs ht
theorem Name.le {b : Array UInt8} (h : Name b) : b.size ≤ 1000 := by have := h.2; omega
theorem join_N {a : Addr} {vs : List PySem.Value} {bs : List (Array UInt8)} {n : Nat} {t : Tok} {Q : PySem.Value → Shared → Prop} (N : News h₀ L s.heap news) (hm : (a, listOf vs.toArray n) ∈ news) (hB : NamesAre vs bs)
    (h : ∀ t' k, Q (.bytes (J bs) t') { s with toks := k }) : wpAny (model prog w) A (call (.builtin "bytes.join") [.bytes #[47] t, .ref a]) Q E s :=
  call_joinN N hm hB.1 (by decide) ⟨fun x hx => (hB.2.1 x hx).le, Nat.le_trans hB.2.2 (by decide)⟩ h
theorem eq_N {a b : Addr} {vs us : List PySem.Value} {bs cs : List (Array UInt8)} {n n2 : Nat} {Q : PySem.Value → Shared → Prop} (N : News h₀ L s.heap news) (ha : (a, listOf vs.toArray n) ∈ news) (hb : (b, listOf us.toArray n2) ∈ news) (hv : NamesAre vs bs) (hu : NamesAre us cs)
    (hr : A.units < cLine) (h : Q (.bool (decide (bs = cs))) s) : wpAny (model prog w) A (compareOp .Eq (.ref a) (.ref b)) Q E s := eq_BL hv.1 hu.1 N ha hb hr h
end
end
section
open PySem PySem.W PyProof.Rows PySem.Calls

section
variable {h₀ h : Heap} {L : Addr}
/-- entries by their places, and all from one place on -/
theorem News.pick (is : List Nat) (k : Nat) {l : List (Addr × Obj)} (N : News h₀ L h l) : News h₀ L h (is.filterMap (fun i => l[i]?) ++ l.drop k) := fun p hp => N p (by
  rcases List.mem_append.mp hp with hp | hp
  · obtain ⟨i, _, hi⟩ := List.mem_filterMap.mp hp
    exact List.mem_of_getElem? hi
  · exact List.mem_of_mem_drop hp)
theorem News.ins (pre : List (Addr × Obj)) {l : List (Addr × Obj)} {x : Addr × Obj} (N : News h₀ L h (pre ++ l)) (hm : x ∈ l) : News h₀ L h (pre ++ x :: l) := fun p hp => by
  rcases List.mem_append.mp hp with hp | hp
  · exact N p (List.mem_append_left _ hp)
  · rcases List.mem_cons.mp hp with rfl | hp
    · exact N _ (List.mem_append_right _ hm)
    · exact N p (List.mem_append_right _ hp)
end
end
theorem rules_L3 : True := by
  k_with_none
  k_with "m:call type:type" => (k_here; (with_reducible show wpAny _ _ (call (Value.type "type") [Value.bytes _ _]) _ _ _); (refine type_bytes ?_))
  k_with "m:call builtin:issubclass" => (k_here; (show wpAny _ _ (call (Value.builtin "issubclass") [Value.type "bytes", Value.ref _]) _ _ _); k_dflt (refine' issub_N (by (k_asm)) (by (k_mem)) ?_))
  k_with "m:mine:news" => first | assumption | (refine cb_drop (by assumption) ?_; intro p hp; repeat (first | exact hp | refine List.mem_cons_of_mem _ ?_))
  k_with "m:mine:size" => first | omega | (simp only [Array.size_append, List.size_toArray, List.length_cons, List.length_nil] at *; omega)
  k_with "m:getMethod bytes" => (k_here; (with_reducible first | refine meth FB.slot_bytes_startswith FB.type_bytes_startswith ?_ | refine meth FB.slot_bytes_endswith FB.type_bytes_endswith ?_ | refine meth slot_rfind type_rfind ?_ | refine meth slot_rstrip type_rstrip ?_ | refine meth slot_split type_split ?_ | refine meth slot_join type_join ?_))
  k_with "m:call builtin:bytes.startswith" => (k_here; (show wpAny _ _ (call (Value.builtin "bytes.startswith") [Value.bytes _ _, Value.bytes _ _]) _ _ _); (refine call_starts ?_))
  k_with "m:call builtin:bytes.endswith" => (k_here; (show wpAny _ _ (call (Value.builtin "bytes.endswith") [Value.bytes _ _, Value.bytes _ _]) _ _ _); (refine call_ends ?_))
  k_with "m:call builtin:bytes.rfind" => (k_here; (show wpAny _ _ (call (Value.builtin "bytes.rfind") [Value.bytes _ _, Value.bytes _ _]) _ _ _); (refine call_rfind ?_))
  k_with "m:call builtin:bytes.rstrip" => (k_here; (show wpAny _ _ (call (Value.builtin "bytes.rstrip") [Value.bytes _ _, Value.bytes _ _]) _ _ _); (refine call_rstrip (by walk_at "mine:size") ?_); intro _ _)
  k_with "m:truthy bytes" => (k_here; (with_reducible show wpAny _ _ (truthy (Value.bytes _ _)) _ _ _); (refine truthy_bytes (by walk_at "mine:size") ?_))
  k_with "m:call builtin:len" => (k_here; (show wpAny _ _ (call (Value.builtin "len") [Value.bytes _ _]) _ _ _); (refine len_bytes (by walk_at "mine:size") ?_))
  k_with "m:subscriptTail" => (k_here; (with_reducible show wpAny _ _ (subscriptTail _ (Expr.Slice _ _ none _) (Value.bytes _ _) (Value.ref _)) _ _ _); (with_reducible rename Fr _ _ _ _ => F'); (with_reducible rename News _ _ _ _ => N'); (refine slice_B (s := ⟨_, _, _, _, _⟩) F' N' (by constructor) (by constructor) (by walk_at "mine:size") ?_); intro _ _ _ F' N' hsz')
  k_with "m:binaryOp Mult bytes int" => (k_here; (with_reducible show wpAny _ _ (binaryOp Operator.Mult (Value.bytes _ _) (Value.int _ _)) _ _ _); (refine mul_one (by omega) (by walk_at "mine:size") ?_); intro _ _)
  k_with "m:binaryOp Add bytes bytes" => (k_here; (with_reducible show wpAny _ _ (binaryOp Operator.Add (Value.bytes _ _) (Value.bytes _ _)) _ _ _); (refine KBy.add_bytes (by walk_at "mine:size") ?_); intro _ _)
  k_with "m:compareOp NotEq bytes bytes" => (k_here; (refine ne_bytes ?_))
  k_with "m:compareOp Eq bytes bytes" => (k_here; (refine eq_bytes ?_))
  k_with "m:exec Try" => (k_here; (refine Try_calm ?_))
  k_with "m:mine:passes_own" => exact fun _ _ h => (show False from h).elim
  k_with "m:inplaceOp Add" => (k_here; (with_reducible show wpAny _ _ (inplaceOp Operator.Add (Value.bytes _ _) (Value.bytes _ _)) _ _ _); (refine iadd_bytes (by walk_at "mine:size") ?_); intro _ _)
  k_with "m:call builtin:bytes.split" => (k_here; (show wpAny _ _ (call (Value.builtin "bytes.split") [Value.bytes _ _, Value.bytes _ _]) _ _ _); k_dflt (refine' call_split1 (by (k_asm)) (by (k_asm)) (by (walk_at "mine:size")) ?_); intro l' h' vs' k' hv' hn' F' N' l1'; (try dsimp only))
  k_with "m:call builtin:len" => (k_here; (show wpAny _ _ (call (Value.builtin "len") [Value.ref _]) _ _ _); k_dflt (refine' len_L (by (k_asm)) (by (k_mem)) (by (omega)) ?_); intro _ _)
  k_with "m:mine:at" => with_reducible (first | exact At.here | assumption | exact At.skip (by decide) (by walk_at "mine:at"))
  k_with "m:eval Name" => (k_here; (with_reducible fail_if_success show wpAny _ _ (eval _ (compEnvC _ _ _ _)) _ _ _); (with_reducible fail_if_success show wpAny _ _ (eval _ (compEnv _ _ _)) _ _ _); (with_reducible fail_if_success show wpAny _ _ (eval _ (envOfC _ _ _ _ _)) _ _ _); (with_reducible rename At _ _ _ => hAt'); k_dflt (refine' ld (by (k_asm)) (by (change At _ _ _; walk_at "mine:at")) ?_))
  k_with "m:loadName" => (k_here; (with_reducible fail_if_success show wpAny _ _ (loadName (envOfC _ _ _ _ _) _) _ _ _); (with_reducible rename At _ _ _ => hAt'); k_dflt (refine' ldn (by (k_asm)) (by (change At _ _ _; walk_at "mine:at")) ?_))
  k_with "m:subscriptTail" => (k_here; (with_reducible show wpAny _ _ (subscriptTail _ _ (Value.ref _) (Value.int (-1) _)) _ _ _); k_dflt (refine' item_last (by (k_asm)) (by (k_mem)) ?_))
  k_with "m:call ref" => (k_here; (with_reducible show wpAny _ _ (call (Value.ref 94) [Value.bytes _ _]) _ _ _); k_dflt (refine' Claim.use (fspath_ok _ _) (by (k_asm)) (by (k_asm)) (by (k_asm)) (by (k_asm)) (by (k_asm)) (by (first | exact rfl | assumption)) (by (ktr_room)) (by (ktr_units)) ?_); intro v h' tk' hv F' N'; subst hv; (try dsimp only); (try k_fold))
  k_with "m:call ref" => (k_here; (with_reducible show wpAny _ _ (call (Value.ref 108) [Value.bytes _ _]) _ _ _); k_dflt (refine' Claim.use (get_sep_ok _ _) (by (k_asm)) (by (k_asm)) (by (k_asm)) (by (k_asm)) (by (k_asm)) (by (first | exact rfl | assumption)) (by (ktr_room)) (by (ktr_units)) ?_); intro v h' tk' hv F' N'; (obtain ⟨t9, hv⟩ := hv); subst hv; (try dsimp only); (try k_fold))
  k_with "m:call ref" => (k_here; (with_reducible show wpAny _ _ (call (Value.ref 122) [Value.bytes _ _]) _ _ _); k_dflt (refine' Claim.use (dirname_ok _ _ (by (walk_at "mine:size"))) (by (k_asm)) (by (k_asm)) (by (k_asm)) (by (k_asm)) (by (k_asm)) (by (first | exact rfl | assumption)) (by (ktr_room)) (by (ktr_units)) ?_); intro v h' tk' hv F' N'; (obtain ⟨t9, hv⟩ := hv); subst hv; (try dsimp only); (try k_fold))
  k_with "m:call ref" => (k_here; (with_reducible show wpAny _ _ (call (Value.ref 127) [Value.ref _]) _ _ _); k_dflt (refine' common_use (by (k_asm)) (by (k_asm)) (by (k_asm)) (by (k_asm)) (by (k_asm)) (by (first | exact rfl | assumption)) (by (walk_at "mine:size")) (by (walk_at "mine:size")) (by (assumption)) (by (assumption)) (by (ktr_room)) (by (ktr_units)) ?_); intro v h' tk' hv F' N'; (obtain ⟨t9, hv⟩ := hv); subst hv; (try dsimp only); (try k_fold))
  k_with "m:eval Name" => (k_here; (with_reducible show wpAny _ _ (eval _ (envOfC _ _ _ _ _)) _ _ _); (with_reducible rename At _ _ _ => hAt'); k_dflt (refine' nameX_L (by (k_asm)) (by (change At _ _ _; walk_at "mine:at")) ?_ (by (rfl)) (by (rfl))))
  k_with "m:mine:k_all" => ((with_reducible rename Lts _ _ => hL8); exact Lts.ne hL8 (by omega))
  k_with "m:mine:fn" => (refine' fn_at (by (k_asm)) (by (k_asm)) (by (k_is)))
  k_with "m:mine:argument" => (refine callWith_refP (splConsP ?_); refine wpP.of_any ?_; k_steps; (all_goals (try k_data)); refine splNilP ?_; refine ⟨by walk_at "mine:fn", ?_⟩)
  k_with "m:mine:mirror" => (k_dflt (refine' ClaimP.use (cn := Str.ofString "law") (mirror_ok _ _ (by (assumption))) (by (k_asm)) (by (k_asm)) (by (k_asm)) (by (k_asm)) (by (k_asm)) (by (first | exact rfl | assumption)) (by (ktr_room)) (by (ktr_units)) ?_); (all_goals (try k_data)); intro v h' tk' hv F' N'; (obtain ⟨t9, hv⟩ := hv); subst hv; dsimp only)
  k_with "m:mine:mem" => first | k_mem | (with_reducible assumption) | (refine List.mem_cons_of_mem _ ?_; walk_at "mine:mem")
  k_with "m:subscriptTail Name Slice ref ref" => (k_here; (with_reducible show wpAny _ _ (subscriptTail _ (PySem.Expr.Slice none (some _) none _) (PySem.Value.ref _) (PySem.Value.ref _)) _ _ _); k_dflt (refine' slice_upN (s := ⟨_, _, _, _, _⟩) (by (k_asm)) (by (k_asm)) (by (walk_at "mine:mem")) (by (assumption)) (by (constructor)) (by (omega)) ?_); intro D' h' us' hU' F' N' l1'; (try dsimp only); (try k_fold))
  k_with "m:subscriptTail Name Slice ref ref" => (k_here; (with_reducible show wpAny _ _ (subscriptTail _ (PySem.Expr.Slice (some _) none none _) (PySem.Value.ref _) (PySem.Value.ref _)) _ _ _); k_dflt (refine' slice_fromN (s := ⟨_, _, _, _, _⟩) (by (k_asm)) (by (k_asm)) (by (walk_at "mine:mem")) (by (assumption)) (by (constructor)) (by (omega)) ?_); intro D' h' us' hU' F' N' l1'; (try dsimp only); (try k_fold))
  k_with "m:subscriptTail Name Slice ref ref" => (k_here; (with_reducible show wpAny _ _ (subscriptTail _ (PySem.Expr.Slice (some _) (some _) none _) (PySem.Value.ref _) (PySem.Value.ref _)) _ _ _); k_dflt (refine' slice_bothN (s := ⟨_, _, _, _, _⟩) (by (k_asm)) (by (k_asm)) (by (walk_at "mine:mem")) (by (assumption)) (by (constructor)) (by (constructor)) (by (omega)) (by (omega)) (by (omega)) ?_); intro D' h' us' hU' F' N' l1'; (try dsimp only); (try k_fold))
  k_with "m:call builtin:bytes.join" => (k_here; (show wpAny _ _ (call (PySem.Value.builtin "bytes.join") [PySem.Value.bytes _ _, PySem.Value.ref _]) _ _ _); k_dflt (refine' join_N (by (k_asm)) (by (walk_at "mine:mem")) (by (with_reducible assumption)) ?_); intro t' _; (try dsimp only))
  k_with "m:eval Name" => (k_here; (with_reducible show wpAny _ _ (eval (PySem.Expr.Name (Str.ofString "size") _) (envOfC _ _ _ _ _)) _ _ _); k_dflt (refine' nameX_C (x := Str.ofString "size") (by (k_asm)) (by (rfl)) (by (k_mem)) (by (k_asm)) ?_ (by (rfl)) (by (rfl)); k_whole))
  k_with "m:eval Name" => (k_here; (with_reducible show wpAny _ _ (eval (PySem.Expr.Name (Str.ofString "names") _) (envOfC _ _ _ _ _)) _ _ _); k_dflt (refine' nameX_C (x := Str.ofString "names") (by (k_asm)) (by (rfl)) (by (k_mem)) (by (k_asm)) ?_ (by (rfl)) (by (rfl)); k_whole))
  k_with "m:eval Name" => (k_here; (with_reducible show wpAny _ _ (eval (PySem.Expr.Name (Str.ofString "whole") _) (envOfC _ _ _ _ _)) _ _ _); k_dflt (refine' nameX_C (x := Str.ofString "whole") (by (k_asm)) (by (rfl)) (by (k_mem)) (by (k_asm)) ?_ (by (rfl)) (by (rfl)); k_whole))
  k_with "m:mine:k_ne" => (refine neN ?_; (try dsimp only); first | assumption | (refine Ne.symm ?_; assumption))
  k_with "m:call ref" => (k_here; (with_reducible show wpAny _ _ (call (PySem.Value.ref 148) [PySem.Value.bytes _ _]) _ _ _); k_dflt (refine' ClaimL.use' (cn := Str.ofString "law") (climb_ok _ _ (by (assumption))) (by (k_asm)) (by (k_asm)) (by (k_asm)) (by (k_asm)) (by (k_asm)) (by (first | exact rfl | assumption)) (by (ktr_room)) (by (ktr_units)) ?_); intro l ws n h' tk' hv F' N' l1; (try dsimp only); (try k_fold))
  k_with "m:call ref" => (k_here; (with_reducible show wpAny _ _ (call (PySem.Value.ref 148) [PySem.Value.bytes _ _]) _ _ _); k_dflt (refine' ClaimL.use' (cn := Str.ofString "law") (climb_ok _ _ (by (assumption))) (by (k_asm)) (by (k_asm)) (by (k_asm)) (by (k_asm)) (by (k_asm)) (by (first | exact rfl | assumption)) (by (ktr_room)) (by (ktr_units)) ?_); intro l ws n h' tk' hv F' N' l1; (try dsimp only); (try k_fold))
  trivial
section
/-- mirrors of the rows so far -/
noncomputable def MirJ (nw₀ : List (Addr × Obj)) (bs : List (Array UInt8)) (i : Nat) (ys : List PySem.Value) (nw : List (Addr × Obj)) : Prop := nw = nw₀ ∧ BytesAre ys ((bs.take i).map Array.reverse)
theorem MirJ.start {nw : List (Addr × Obj)} {bs : List (Array UInt8)} : MirJ nw bs 0 [] nw := ⟨rfl, by simp; exact .nil⟩
theorem MirJ.len {nw₀ : List (Addr × Obj)} {bs : List (Array UInt8)} {i : Nat} {ys : List PySem.Value} {nw : List (Addr × Obj)} (h : MirJ nw₀ bs i ys nw) : ys.length ≤ i := by
  rw [h.2.length, List.length_map, List.length_take]; exact Nat.min_le_left _ _
theorem MirJ.next {nw₀ : List (Addr × Obj)} {bs : List (Array UInt8)} {i : Nat} {ys : List PySem.Value} {c : Array UInt8} {t : Tok} (h : MirJ nw₀ bs i ys nw₀) (hc : bs[i]? = some c) : MirJ nw₀ bs (i + 1) (ys ++ [.bytes c.reverse t]) nw₀ := by
  refine ⟨rfl, ?_⟩
  rw [List.take_add_one, hc, List.map_append]
  exact h.2.snoc
theorem MirJ.fin {nw₀ : List (Addr × Obj)} {bs : List (Array UInt8)} {vs ys : List PySem.Value} {nw : List (Addr × Obj)} (hv : BytesAre vs bs) (h : MirJ nw₀ bs vs.length ys nw) : nw = nw₀ ∧ BytesAre ys (bs.map Array.reverse) := by
  refine ⟨h.1, ?_⟩
  have := h.2
  rwa [hv.length, List.take_length] at this
theorem News.less {h₀ h : Heap} {L : Addr} {ps qs : List (Addr × Obj)} (hs : ∀ p ∈ ps, p ∈ qs) (N : News h₀ L h qs) : News h₀ L h ps := PySem.W.KStb.news_of N hs
theorem climb_sizes {b c : Array UInt8} {k : Nat} (hb : b.size ≤ 1000) (h : c ∈ climbL b k) : c.size ≤ 1000 := by
  unfold climbL at h
  obtain ⟨i, _, rfl⟩ := List.mem_map.mp h
  exact Nat.le_trans (dirIter_size b i) hb
set_option maxRecDepth 100000 in
set_option maxHeartbeats 4000000 in
theorem law_s3 (w : World) (mean : ExcName → Option PySem.Value) (mg mb : Str → Option PySem.Value) (h₀ : Heap) (L fa lc ln : Addr) (cd : PySem.Value) (b : Array UInt8) (ob on o4 o5 o6 : Obj) (m : Str → Option PySem.Value) (t : Tok) (s : Shared) (Q : Flow → Shared → Prop)
    (B : Below callerA h₀ [] h₀) (X : (Mine.lawK w.params).In h₀) (T : Top Mine.hd.view_1_2 (looseW Mine.hd.view_1_2 []) mean mg mb h₀)
    (hb : b.size ≤ 1000)
    (hP : At m (Str.ofString "path") (.bytes b t)) (hC : At m (Str.ofString "climb") (.ref lc))
    (F : Fr h₀ L s.heap m) (N : News h₀ L s.heap [(lc, ob), (ln, on), (L + 1 + 1 + 1 + 1 + 1 + 1, o6), (L + 1 + 1 + 1 + 1 + 1, o5), (L + 1 + 1 + 1 + 1, o4)])
    (k : ∀ (lr : Addr) (ys : List PySem.Value) (m' : Str → Option PySem.Value) (h : Heap) (tk : Nat), BytesAre ys ((climbL b.reverse 8).map Array.reverse) → At m' (Str.ofString "climb") (.ref lc) → At m' (Str.ofString "rests") (.ref lr) →
      (∀ p ∈ [(lc, ob), (ln, on), (L + 1 + 1 + 1 + 1 + 1 + 1, o6), (L + 1 + 1 + 1 + 1 + 1, o5), (L + 1 + 1 + 1 + 1, o4)], p.1 ≠ lr) →
      Fr h₀ L h m' → News h₀ L h [(lr, lstN ys), (lc, ob), (ln, on), (L + 1 + 1 + 1 + 1 + 1 + 1, o6), (L + 1 + 1 + 1 + 1 + 1, o5), (L + 1 + 1 + 1 + 1, o4)] →
      wpP Clean (model PySem.Challenge.rw_pd0128_01.row.prog w) (callerA.deeper (envOfC (Str.ofString "law") lawScope L fa cd)) (execs (lawBody.drop 7) (envOfC (Str.ofString "law") lawScope L fa cd)) Q (fun _ _ => False) { s with heap := h, toks := tk }) :
    wpP Clean (model PySem.Challenge.rw_pd0128_01.row.prog w) (callerA.deeper (envOfC (Str.ofString "law") lawScope L fa cd)) (execs (lawBody.drop 6) (envOfC (Str.ofString "law") lawScope L fa cd)) Q (fun _ _ => False) s := by
  revert X
  k_fill
  intro X
  unfold lawBody lawScope lawRec at k ⊢
  dsimp only [List.drop] at k ⊢
  refine execsP ?_
  refine Assign_LC clean_kept (by rfl) (by with_unfolding_all rfl) rfl (by decide) ?_
  refine CallP ?_
  k_steps
  refine callWith_refP (splConsP ?_)
  refine CallP ?_
  k_steps
  walk_at "mine:argument"
  walk_at "mine:mirror"
  refine splNilP ?_
  refine ⟨by walk_at "mine:fn", ?_⟩
  have hbr : b.reverse.size ≤ 1000 := by rw [Array.size_reverse]; exact hb
  refine wpP.of_any ?_
  k_steps
  (with_reducible rename Fr _ _ _ _ => F₁)
  (with_reducible rename News _ _ _ _ => N₁)
  (with_reducible rename BytesAre _ _ => hvB)
  refine' comp_lst clean_kept rfl (by decide) rfl (by rfl) F₁ N₁ ?km ?hz (MirJ _ (climbL b.reverse 8)) ?hkeep (fun _ _ _ h => h.len) MirJ.start ?turn ?fin
  case km => k_mem
  case hz => rw [hvB.length]; unfold climbL; rw [List.length_map, List.length_range]; decide
  case hkeep =>
    rintro i ys nw ⟨rfl, _⟩
    k_mem
  case turn =>
    rintro i v ys nw hi hJ h₂ tk₂ I oI C oC D m₂ off ne hoC hm₂ F₂ N₂
    clear ne
    obtain rfl := hJ.1
    obtain ⟨c, t₂, rfl, hc⟩ := hvB.getV hi
    have hcz : c.size ≤ 1000 := climb_sizes hbr (List.mem_of_getElem? hc)
    clear F₁ N₁
    refine Tests_nil ?_
    rw [if_pos rfl]
    refine CallP ?_
    k_steps
    all_goals (try k_data)
    walk_at "mine:argument"
    walk_at "mine:mirror"
    exact CEnd.intro0 (by assumption) (by assumption) off (hJ.next hc)
  case fin =>
    intro ys nw hJ
    obtain ⟨rfl, hB⟩ := MirJ.fin hvB hJ
    refine' CFin.assignQ ?e1 ?e2 ?e3 ?_
    case e1 => rfl
    case e2 => rfl
    case e3 => rfl
    intro D h₂ tk₂ F₂ N₂ off
    refine k D ys _ _ _ hB ?_ At.here (fun p hp => off p (List.mem_cons_of_mem _ hp)) F₂ (News.less (fun p hp => ?_) N₂)
    · exact At.skip (by decide) (by assumption)
    · rcases List.mem_cons.mp hp with rfl | hp
      · exact List.mem_cons_self
      · exact List.mem_cons_of_mem _ (List.mem_cons_of_mem _ hp)
end
theorem rules_L4 : True := by
  k_with_none
  k_with "m:call type:type" => (k_here; (with_reducible show wpAny _ _ (call (Value.type "type") [Value.bytes _ _]) _ _ _); (refine type_bytes ?_))
  k_with "m:call builtin:issubclass" => (k_here; (show wpAny _ _ (call (Value.builtin "issubclass") [Value.type "bytes", Value.ref _]) _ _ _); k_dflt (refine' issub_N (by (k_asm)) (by (k_mem)) ?_))
  k_with "m:mine:news" => first | assumption | (refine cb_drop (by assumption) ?_; intro p hp; repeat (first | exact hp | refine List.mem_cons_of_mem _ ?_))
  k_with "m:mine:size" => first | omega | (simp only [Array.size_append, List.size_toArray, List.length_cons, List.length_nil] at *; omega)
  k_with "m:getMethod bytes" => (k_here; (with_reducible first | refine meth FB.slot_bytes_startswith FB.type_bytes_startswith ?_ | refine meth FB.slot_bytes_endswith FB.type_bytes_endswith ?_ | refine meth slot_rfind type_rfind ?_ | refine meth slot_rstrip type_rstrip ?_ | refine meth slot_split type_split ?_ | refine meth slot_join type_join ?_))
  k_with "m:call builtin:bytes.startswith" => (k_here; (show wpAny _ _ (call (Value.builtin "bytes.startswith") [Value.bytes _ _, Value.bytes _ _]) _ _ _); (refine call_starts ?_))
  k_with "m:call builtin:bytes.endswith" => (k_here; (show wpAny _ _ (call (Value.builtin "bytes.endswith") [Value.bytes _ _, Value.bytes _ _]) _ _ _); (refine call_ends ?_))
  k_with "m:call builtin:bytes.rfind" => (k_here; (show wpAny _ _ (call (Value.builtin "bytes.rfind") [Value.bytes _ _, Value.bytes _ _]) _ _ _); (refine call_rfind ?_))
  k_with "m:call builtin:bytes.rstrip" => (k_here; (show wpAny _ _ (call (Value.builtin "bytes.rstrip") [Value.bytes _ _, Value.bytes _ _]) _ _ _); (refine call_rstrip (by walk_at "mine:size") ?_); intro _ _)
  k_with "m:truthy bytes" => (k_here; (with_reducible show wpAny _ _ (truthy (Value.bytes _ _)) _ _ _); (refine truthy_bytes (by walk_at "mine:size") ?_))
  k_with "m:call builtin:len" => (k_here; (show wpAny _ _ (call (Value.builtin "len") [Value.bytes _ _]) _ _ _); (refine len_bytes (by walk_at "mine:size") ?_))
  k_with "m:subscriptTail" => (k_here; (with_reducible show wpAny _ _ (subscriptTail _ (Expr.Slice _ _ none _) (Value.bytes _ _) (Value.ref _)) _ _ _); (with_reducible rename Fr _ _ _ _ => F'); (with_reducible rename News _ _ _ _ => N'); (refine slice_B (s := ⟨_, _, _, _, _⟩) F' N' (by constructor) (by constructor) (by walk_at "mine:size") ?_); intro _ _ _ F' N' hsz')
  k_with "m:binaryOp Mult bytes int" => (k_here; (with_reducible show wpAny _ _ (binaryOp Operator.Mult (Value.bytes _ _) (Value.int _ _)) _ _ _); (refine mul_one (by omega) (by walk_at "mine:size") ?_); intro _ _)
  k_with "m:binaryOp Add bytes bytes" => (k_here; (with_reducible show wpAny _ _ (binaryOp Operator.Add (Value.bytes _ _) (Value.bytes _ _)) _ _ _); (refine KBy.add_bytes (by walk_at "mine:size") ?_); intro _ _)
  k_with "m:compareOp NotEq bytes bytes" => (k_here; (refine ne_bytes ?_))
  k_with "m:compareOp Eq bytes bytes" => (k_here; (refine eq_bytes ?_))
  k_with "m:exec Try" => (k_here; (refine Try_calm ?_))
  k_with "m:mine:passes_own" => exact fun _ _ h => (show False from h).elim
  k_with "m:inplaceOp Add" => (k_here; (with_reducible show wpAny _ _ (inplaceOp Operator.Add (Value.bytes _ _) (Value.bytes _ _)) _ _ _); (refine iadd_bytes (by walk_at "mine:size") ?_); intro _ _)
  k_with "m:call builtin:bytes.split" => (k_here; (show wpAny _ _ (call (Value.builtin "bytes.split") [Value.bytes _ _, Value.bytes _ _]) _ _ _); k_dflt (refine' call_split1 (by (k_asm)) (by (k_asm)) (by (walk_at "mine:size")) ?_); intro l' h' vs' k' hv' hn' F' N' l1'; (try dsimp only))
  k_with "m:call builtin:len" => (k_here; (show wpAny _ _ (call (Value.builtin "len") [Value.ref _]) _ _ _); k_dflt (refine' len_L (by (k_asm)) (by (k_mem)) (by (omega)) ?_); intro _ _)
  k_with "m:mine:at" => with_reducible (first | exact At.here | assumption | exact At.skip (by decide) (by walk_at "mine:at"))
  k_with "m:eval Name" => (k_here; (with_reducible fail_if_success show wpAny _ _ (eval _ (compEnvC _ _ _ _)) _ _ _); (with_reducible fail_if_success show wpAny _ _ (eval _ (compEnv _ _ _)) _ _ _); (with_reducible fail_if_success show wpAny _ _ (eval _ (envOfC _ _ _ _ _)) _ _ _); (with_reducible rename At _ _ _ => hAt'); k_dflt (refine' ld (by (k_asm)) (by (change At _ _ _; walk_at "mine:at")) ?_))
  k_with "m:loadName" => (k_here; (with_reducible fail_if_success show wpAny _ _ (loadName (envOfC _ _ _ _ _) _) _ _ _); (with_reducible rename At _ _ _ => hAt'); k_dflt (refine' ldn (by (k_asm)) (by (change At _ _ _; walk_at "mine:at")) ?_))
  k_with "m:subscriptTail" => (k_here; (with_reducible show wpAny _ _ (subscriptTail _ _ (Value.ref _) (Value.int (-1) _)) _ _ _); k_dflt (refine' item_last (by (k_asm)) (by (k_mem)) ?_))
  k_with "m:call ref" => (k_here; (with_reducible show wpAny _ _ (call (Value.ref 94) [Value.bytes _ _]) _ _ _); k_dflt (refine' Claim.use (fspath_ok _ _) (by (k_asm)) (by (k_asm)) (by (k_asm)) (by (k_asm)) (by (k_asm)) (by (first | exact rfl | assumption)) (by (ktr_room)) (by (ktr_units)) ?_); intro v h' tk' hv F' N'; subst hv; (try dsimp only); (try k_fold))
  k_with "m:call ref" => (k_here; (with_reducible show wpAny _ _ (call (Value.ref 108) [Value.bytes _ _]) _ _ _); k_dflt (refine' Claim.use (get_sep_ok _ _) (by (k_asm)) (by (k_asm)) (by (k_asm)) (by (k_asm)) (by (k_asm)) (by (first | exact rfl | assumption)) (by (ktr_room)) (by (ktr_units)) ?_); intro v h' tk' hv F' N'; (obtain ⟨t9, hv⟩ := hv); subst hv; (try dsimp only); (try k_fold))
  k_with "m:call ref" => (k_here; (with_reducible show wpAny _ _ (call (Value.ref 122) [Value.bytes _ _]) _ _ _); k_dflt (refine' Claim.use (dirname_ok _ _ (by (walk_at "mine:size"))) (by (k_asm)) (by (k_asm)) (by (k_asm)) (by (k_asm)) (by (k_asm)) (by (first | exact rfl | assumption)) (by (ktr_room)) (by (ktr_units)) ?_); intro v h' tk' hv F' N'; (obtain ⟨t9, hv⟩ := hv); subst hv; (try dsimp only); (try k_fold))
  k_with "m:call ref" => (k_here; (with_reducible show wpAny _ _ (call (Value.ref 127) [Value.ref _]) _ _ _); k_dflt (refine' common_use (by (k_asm)) (by (k_asm)) (by (k_asm)) (by (k_asm)) (by (k_asm)) (by (first | exact rfl | assumption)) (by (walk_at "mine:size")) (by (walk_at "mine:size")) (by (assumption)) (by (assumption)) (by (ktr_room)) (by (ktr_units)) ?_); intro v h' tk' hv F' N'; (obtain ⟨t9, hv⟩ := hv); subst hv; (try dsimp only); (try k_fold))
  k_with "m:eval Name" => (k_here; (with_reducible show wpAny _ _ (eval _ (envOfC _ _ _ _ _)) _ _ _); (with_reducible rename At _ _ _ => hAt'); k_dflt (refine' nameX_L (by (k_asm)) (by (change At _ _ _; walk_at "mine:at")) ?_ (by (rfl)) (by (rfl))))
  k_with "m:mine:k_all" => ((with_reducible rename Lts _ _ => hL8); exact Lts.ne hL8 (by omega))
  k_with "m:mine:fn" => (refine' fn_at (by (k_asm)) (by (k_asm)) (by (k_is)))
  k_with "m:mine:argument" => (refine callWith_refP (splConsP ?_); refine wpP.of_any ?_; k_steps; (all_goals (try k_data)); refine splNilP ?_; refine ⟨by walk_at "mine:fn", ?_⟩)
  k_with "m:mine:mirror" => (k_dflt (refine' ClaimP.use (cn := Str.ofString "law") (mirror_ok _ _ (by (assumption))) (by (k_asm)) (by (k_asm)) (by (k_asm)) (by (k_asm)) (by (k_asm)) (by (first | exact rfl | assumption)) (by (ktr_room)) (by (ktr_units)) ?_); (all_goals (try k_data)); intro v h' tk' hv F' N'; (obtain ⟨t9, hv⟩ := hv); subst hv; dsimp only)
  k_with "m:mine:mem" => first | k_mem | (with_reducible assumption) | (refine List.mem_cons_of_mem _ ?_; walk_at "mine:mem")
  k_with "m:subscriptTail Name Slice ref ref" => (k_here; (with_reducible show wpAny _ _ (subscriptTail _ (PySem.Expr.Slice none (some _) none _) (PySem.Value.ref _) (PySem.Value.ref _)) _ _ _); k_dflt (refine' slice_upN (s := ⟨_, _, _, _, _⟩) (by (k_asm)) (by (k_asm)) (by (walk_at "mine:mem")) (by (assumption)) (by (constructor)) (by (omega)) ?_); intro D' h' us' hU' F' N' l1'; (try dsimp only); (try k_fold))
  k_with "m:subscriptTail Name Slice ref ref" => (k_here; (with_reducible show wpAny _ _ (subscriptTail _ (PySem.Expr.Slice (some _) none none _) (PySem.Value.ref _) (PySem.Value.ref _)) _ _ _); k_dflt (refine' slice_fromN (s := ⟨_, _, _, _, _⟩) (by (k_asm)) (by (k_asm)) (by (walk_at "mine:mem")) (by (assumption)) (by (constructor)) (by (omega)) ?_); intro D' h' us' hU' F' N' l1'; (try dsimp only); (try k_fold))
  k_with "m:subscriptTail Name Slice ref ref" => (k_here; (with_reducible show wpAny _ _ (subscriptTail _ (PySem.Expr.Slice (some _) (some _) none _) (PySem.Value.ref _) (PySem.Value.ref _)) _ _ _); k_dflt (refine' slice_bothN (s := ⟨_, _, _, _, _⟩) (by (k_asm)) (by (k_asm)) (by (walk_at "mine:mem")) (by (assumption)) (by (constructor)) (by (constructor)) (by (omega)) (by (omega)) (by (omega)) ?_); intro D' h' us' hU' F' N' l1'; (try dsimp only); (try k_fold))
  k_with "m:call builtin:bytes.join" => (k_here; (show wpAny _ _ (call (PySem.Value.builtin "bytes.join") [PySem.Value.bytes _ _, PySem.Value.ref _]) _ _ _); k_dflt (refine' join_N (by (k_asm)) (by (walk_at "mine:mem")) (by (with_reducible assumption)) ?_); intro t' _; (try dsimp only))
  k_with "m:eval Name" => (k_here; (with_reducible show wpAny _ _ (eval (PySem.Expr.Name (Str.ofString "size") _) (envOfC _ _ _ _ _)) _ _ _); k_dflt (refine' nameX_C (x := Str.ofString "size") (by (k_asm)) (by (rfl)) (by (k_mem)) (by (k_asm)) ?_ (by (rfl)) (by (rfl)); k_whole))
  k_with "m:eval Name" => (k_here; (with_reducible show wpAny _ _ (eval (PySem.Expr.Name (Str.ofString "names") _) (envOfC _ _ _ _ _)) _ _ _); k_dflt (refine' nameX_C (x := Str.ofString "names") (by (k_asm)) (by (rfl)) (by (k_mem)) (by (k_asm)) ?_ (by (rfl)) (by (rfl)); k_whole))
  k_with "m:eval Name" => (k_here; (with_reducible show wpAny _ _ (eval (PySem.Expr.Name (Str.ofString "whole") _) (envOfC _ _ _ _ _)) _ _ _); k_dflt (refine' nameX_C (x := Str.ofString "whole") (by (k_asm)) (by (rfl)) (by (k_mem)) (by (k_asm)) ?_ (by (rfl)) (by (rfl)); k_whole))
  k_with "m:mine:k_ne" => (refine neN ?_; (try dsimp only); first | assumption | (refine Ne.symm ?_; assumption))
  k_with "m:eval ListComp" => refine Stop.go ?_
  trivial
section
/-- rows of names, joined, so far -/
noncomputable def RowJ (nw₀ : List (Addr × Obj)) (f : Nat → List (Array UInt8)) (i : Nat) (ys : List PySem.Value) (nw : List (Addr × Obj)) : Prop := nw = nw₀ ∧ BytesAre ys ((List.range i).map fun k => J (f k))
theorem RowJ.start {nw : List (Addr × Obj)} {f : Nat → List (Array UInt8)} : RowJ nw f 0 [] nw := ⟨rfl, by simp; exact .nil⟩
theorem RowJ.len {nw₀ : List (Addr × Obj)} {f : Nat → List (Array UInt8)} {i : Nat} {ys : List PySem.Value} {nw : List (Addr × Obj)} (h : RowJ nw₀ f i ys nw) : ys.length ≤ i := by
  rw [h.2.length, List.length_map, List.length_range]; exact Nat.le_refl _
theorem RowJ.next {nw₀ : List (Addr × Obj)} {f : Nat → List (Array UInt8)} {i : Nat} {ys : List PySem.Value} {bs : List (Array UInt8)} {t : Tok} (h : RowJ nw₀ f i ys nw₀) (hc : bs = f i) : RowJ nw₀ f (i + 1) (ys ++ [.bytes (J bs) t]) nw₀ := by
  refine ⟨rfl, ?_⟩
  rw [List.range_succ, List.map_append, hc]
  exact h.2.snoc
noncomputable def RowsAre (vs : List PySem.Value) (f : Nat → List (Array UInt8)) : Prop := BytesAre vs ((List.range 9).map fun k => J (f k))
set_option maxRecDepth 100000 in
set_option maxHeartbeats 4000000 in
theorem law_s4 (w : World) (mean : ExcName → Option PySem.Value) (mg mb : Str → Option PySem.Value) (h₀ : Heap) (L fa lr lc ln : Addr) (cd : PySem.Value) (yr yc yn : List PySem.Value) (ns : List (Array UInt8)) (nc : Nat) (o4 o5 o6 : Obj) (m : Str → Option PySem.Value) (s : Shared) (Q : Flow → Shared → Prop)
    (B : Below callerA h₀ [] h₀) (X : (Mine.lawK w.params).In h₀) (T : Top Mine.hd.view_1_2 (looseW Mine.hd.view_1_2 []) mean mg mb h₀)
    (hN : NamesAre yn ns) (hl : ns.length = 8) (hC : RowsAre yc fun k => ns.take (8 - k)) (hR : RowsAre yr fun k => ns.drop k) (d4 : o4.data = .cell (some (.ref ln)))
    (hc : At m (Str.ofString "climb") (.ref lc)) (hr : At m (Str.ofString "rests") (.ref lr))
    (F : Fr h₀ L s.heap m) (N : News h₀ L s.heap [(lr, lstN yr), (lc, listOf yc.toArray nc), (ln, lstN yn), (L + 1 + 1 + 1 + 1 + 1 + 1, o6), (L + 1 + 1 + 1 + 1 + 1, o5), (L + 1 + 1 + 1 + 1, o4)])
    (k : ∀ (h : Heap) (tk : Nat), Fr h₀ L h m → News h₀ L h [(lr, lstN yr), (lc, listOf yc.toArray nc), (ln, lstN yn), (L + 1 + 1 + 1 + 1 + 1 + 1, o6), (L + 1 + 1 + 1 + 1 + 1, o5), (L + 1 + 1 + 1 + 1, o4)] →
      wpP Clean (model PySem.Challenge.rw_pd0128_01.row.prog w) (callerA.deeper (envOfC (Str.ofString "law") lawScope L fa cd)) (execs (lawBody.drop 8) (envOfC (Str.ofString "law") lawScope L fa cd)) Q (fun _ _ => False) { s with heap := h, toks := tk }) :
    wpP Clean (model PySem.Challenge.rw_pd0128_01.row.prog w) (callerA.deeper (envOfC (Str.ofString "law") lawScope L fa cd)) (execs (lawBody.drop 7) (envOfC (Str.ofString "law") lawScope L fa cd)) Q (fun _ _ => False) s := by
  revert X
  k_fill
  intro X
  unfold lawBody lawScope lawRec at k ⊢
  dsimp only [List.drop] at k ⊢
  refine execsP ?_
  refine wpP.of_any ?_
  k_steps
  all_goals (try k_data)
  refine wpP.any (eval_LC every_kept (by with_unfolding_all rfl) rfl (by decide) ?src)
  refine wpP.of_any ?_
  k_steps
  all_goals (try k_data)
  refine comp_rng every_kept rfl (by decide) rfl (by rfl) (a := 0) (b := 9) (c := 1) (n := 9) rfl rfl (by assumption) (by assumption) (by assumption) (by decide) (RowJ _ fun k => ns.take (8 - k)) (fun _ _ _ h => h.len) RowJ.start ?turn ?fin
  case turn =>
    rintro i t₁ ys nw hi hJ h₂ tk₂ I oI C oC D m₂ off ne hoC hm₂ F₂ N₂
    clear ne
    obtain rfl := hJ.1
    refine Tests_nil ?_
    rw [if_pos rfl]
    refine wpP.of_any ?_
    k_steps
    all_goals (try k_data)
    exact CEnd.intro _ (by assumption) (by assumption) (fun p hp => List.mem_cons_of_mem _ hp) off (hJ.next (congrArg (fun z => ns.take z) (by omega)))
  case fin =>
    intro ys nw hJ
    obtain ⟨rfl, hB⟩ := hJ
    refine CFin.eval ?_
    intro D h₂ tk₂ F₂ N₂ off
    refine ne_BL hC hB N₂ (by k_mem) (by k_mem) (by ktr_units) ?_
    rw [decide_eq_true rfl]
    k_steps
    all_goals (try k_data)
    refine wpP.any (eval_LC every_kept (by with_unfolding_all rfl) rfl (by decide) ?_)
    refine wpP.of_any ?_
    k_steps
    all_goals (try k_data)
    refine comp_rng every_kept rfl (by decide) rfl (by rfl) (a := 0) (b := 9) (c := 1) (n := 9) rfl rfl (by assumption) (by assumption) (by assumption) (by decide) (RowJ _ fun k => ns.drop k) (fun _ _ _ h => h.len) RowJ.start ?turn2 ?fin2
    case turn2 =>
      rintro i t₁ ys nw hi hJ h₂ tk₂ I oI C oC D m₂ off ne hoC hm₂ F₂ N₂
      clear ne
      obtain rfl := hJ.1
      refine Tests_nil ?_
      rw [if_pos rfl]
      refine wpP.of_any ?_
      k_steps
      all_goals (try k_data)
      exact CEnd.intro _ (by assumption) (by assumption) (fun p hp => List.mem_cons_of_mem _ hp) off (hJ.next (congrArg (fun z => ns.drop z) (by omega)))
    case fin2 =>
      intro ys nw hJ
      obtain ⟨rfl, hB⟩ := hJ
      refine CFin.eval ?_
      intro D h₂ tk₂ F₂ N₂ off
      refine ne_BL hR hB N₂ (by k_mem) (by k_mem) (by ktr_units) ?_
      rw [decide_eq_true rfl]
      k_steps
      all_goals (try k_data)
      exact k _ _ F₂ (News.less (fun p hp => List.mem_cons_of_mem _ (List.mem_cons_of_mem _ hp)) N₂)
end
theorem rules_L5 : True := by
  k_with_none
  k_with "m:call type:type" => (k_here; (with_reducible show wpAny _ _ (call (Value.type "type") [Value.bytes _ _]) _ _ _); (refine type_bytes ?_))
  k_with "m:call builtin:issubclass" => (k_here; (show wpAny _ _ (call (Value.builtin "issubclass") [Value.type "bytes", Value.ref _]) _ _ _); k_dflt (refine' issub_N (by (k_asm)) (by (k_mem)) ?_))
  k_with "m:mine:news" => first | assumption | (refine cb_drop (by assumption) ?_; intro p hp; repeat (first | exact hp | refine List.mem_cons_of_mem _ ?_))
  k_with "m:mine:size" => first | omega | (simp only [Array.size_append, List.size_toArray, List.length_cons, List.length_nil] at *; omega)
  k_with "m:getMethod bytes" => (k_here; (with_reducible first | refine meth FB.slot_bytes_startswith FB.type_bytes_startswith ?_ | refine meth FB.slot_bytes_endswith FB.type_bytes_endswith ?_ | refine meth slot_rfind type_rfind ?_ | refine meth slot_rstrip type_rstrip ?_ | refine meth slot_split type_split ?_ | refine meth slot_join type_join ?_))
  k_with "m:call builtin:bytes.startswith" => (k_here; (show wpAny _ _ (call (Value.builtin "bytes.startswith") [Value.bytes _ _, Value.bytes _ _]) _ _ _); (refine call_starts ?_))
  k_with "m:call builtin:bytes.endswith" => (k_here; (show wpAny _ _ (call (Value.builtin "bytes.endswith") [Value.bytes _ _, Value.bytes _ _]) _ _ _); (refine call_ends ?_))
  k_with "m:call builtin:bytes.rfind" => (k_here; (show wpAny _ _ (call (Value.builtin "bytes.rfind") [Value.bytes _ _, Value.bytes _ _]) _ _ _); (refine call_rfind ?_))
  k_with "m:call builtin:bytes.rstrip" => (k_here; (show wpAny _ _ (call (Value.builtin "bytes.rstrip") [Value.bytes _ _, Value.bytes _ _]) _ _ _); (refine call_rstrip (by walk_at "mine:size") ?_); intro _ _)
  k_with "m:truthy bytes" => (k_here; (with_reducible show wpAny _ _ (truthy (Value.bytes _ _)) _ _ _); (refine truthy_bytes (by walk_at "mine:size") ?_))
  k_with "m:call builtin:len" => (k_here; (show wpAny _ _ (call (Value.builtin "len") [Value.bytes _ _]) _ _ _); (refine len_bytes (by walk_at "mine:size") ?_))
  k_with "m:subscriptTail" => (k_here; (with_reducible show wpAny _ _ (subscriptTail _ (Expr.Slice _ _ none _) (Value.bytes _ _) (Value.ref _)) _ _ _); (with_reducible rename Fr _ _ _ _ => F'); (with_reducible rename News _ _ _ _ => N'); (refine slice_B (s := ⟨_, _, _, _, _⟩) F' N' (by constructor) (by constructor) (by walk_at "mine:size") ?_); intro _ _ _ F' N' hsz')
  k_with "m:binaryOp Mult bytes int" => (k_here; (with_reducible show wpAny _ _ (binaryOp Operator.Mult (Value.bytes _ _) (Value.int _ _)) _ _ _); (refine mul_one (by omega) (by walk_at "mine:size") ?_); intro _ _)
  k_with "m:binaryOp Add bytes bytes" => (k_here; (with_reducible show wpAny _ _ (binaryOp Operator.Add (Value.bytes _ _) (Value.bytes _ _)) _ _ _); (refine KBy.add_bytes (by walk_at "mine:size") ?_); intro _ _)
  k_with "m:compareOp NotEq bytes bytes" => (k_here; (refine ne_bytes ?_))
  k_with "m:compareOp Eq bytes bytes" => (k_here; (refine eq_bytes ?_))
  k_with "m:exec Try" => (k_here; (refine Try_calm ?_))
  k_with "m:mine:passes_own" => exact fun _ _ h => (show False from h).elim
  k_with "m:inplaceOp Add" => (k_here; (with_reducible show wpAny _ _ (inplaceOp Operator.Add (Value.bytes _ _) (Value.bytes _ _)) _ _ _); (refine iadd_bytes (by walk_at "mine:size") ?_); intro _ _)
  k_with "m:call builtin:bytes.split" => (k_here; (show wpAny _ _ (call (Value.builtin "bytes.split") [Value.bytes _ _, Value.bytes _ _]) _ _ _); k_dflt (refine' call_split1 (by (k_asm)) (by (k_asm)) (by (walk_at "mine:size")) ?_); intro l' h' vs' k' hv' hn' F' N' l1'; (try dsimp only))
  k_with "m:call builtin:len" => (k_here; (show wpAny _ _ (call (Value.builtin "len") [Value.ref _]) _ _ _); k_dflt (refine' len_L (by (k_asm)) (by (k_mem)) (by (omega)) ?_); intro _ _)
  k_with "m:mine:at" => with_reducible (first | exact At.here | assumption | exact At.skip (by decide) (by walk_at "mine:at"))
  k_with "m:eval Name" => (k_here; (with_reducible fail_if_success show wpAny _ _ (eval _ (compEnvC _ _ _ _)) _ _ _); (with_reducible fail_if_success show wpAny _ _ (eval _ (compEnv _ _ _)) _ _ _); (with_reducible fail_if_success show wpAny _ _ (eval _ (envOfC _ _ _ _ _)) _ _ _); (with_reducible rename At _ _ _ => hAt'); k_dflt (refine' ld (by (k_asm)) (by (change At _ _ _; walk_at "mine:at")) ?_))
  k_with "m:loadName" => (k_here; (with_reducible fail_if_success show wpAny _ _ (loadName (envOfC _ _ _ _ _) _) _ _ _); (with_reducible rename At _ _ _ => hAt'); k_dflt (refine' ldn (by (k_asm)) (by (change At _ _ _; walk_at "mine:at")) ?_))
  k_with "m:subscriptTail" => (k_here; (with_reducible show wpAny _ _ (subscriptTail _ _ (Value.ref _) (Value.int (-1) _)) _ _ _); k_dflt (refine' item_last (by (k_asm)) (by (k_mem)) ?_))
  k_with "m:call ref" => (k_here; (with_reducible show wpAny _ _ (call (Value.ref 94) [Value.bytes _ _]) _ _ _); k_dflt (refine' Claim.use (fspath_ok _ _) (by (k_asm)) (by (k_asm)) (by (k_asm)) (by (k_asm)) (by (k_asm)) (by (first | exact rfl | assumption)) (by (ktr_room)) (by (ktr_units)) ?_); intro v h' tk' hv F' N'; subst hv; (try dsimp only); (try k_fold))
  k_with "m:call ref" => (k_here; (with_reducible show wpAny _ _ (call (Value.ref 108) [Value.bytes _ _]) _ _ _); k_dflt (refine' Claim.use (get_sep_ok _ _) (by (k_asm)) (by (k_asm)) (by (k_asm)) (by (k_asm)) (by (k_asm)) (by (first | exact rfl | assumption)) (by (ktr_room)) (by (ktr_units)) ?_); intro v h' tk' hv F' N'; (obtain ⟨t9, hv⟩ := hv); subst hv; (try dsimp only); (try k_fold))
  k_with "m:call ref" => (k_here; (with_reducible show wpAny _ _ (call (Value.ref 122) [Value.bytes _ _]) _ _ _); k_dflt (refine' Claim.use (dirname_ok _ _ (by (walk_at "mine:size"))) (by (k_asm)) (by (k_asm)) (by (k_asm)) (by (k_asm)) (by (k_asm)) (by (first | exact rfl | assumption)) (by (ktr_room)) (by (ktr_units)) ?_); intro v h' tk' hv F' N'; (obtain ⟨t9, hv⟩ := hv); subst hv; (try dsimp only); (try k_fold))
  k_with "m:call ref" => (k_here; (with_reducible show wpAny _ _ (call (Value.ref 127) [Value.ref _]) _ _ _); k_dflt (refine' common_use (by (k_asm)) (by (k_asm)) (by (k_asm)) (by (k_asm)) (by (k_asm)) (by (first | exact rfl | assumption)) (by (walk_at "mine:size")) (by (walk_at "mine:size")) (by (assumption)) (by (assumption)) (by (ktr_room)) (by (ktr_units)) ?_); intro v h' tk' hv F' N'; (obtain ⟨t9, hv⟩ := hv); subst hv; (try dsimp only); (try k_fold))
  k_with "m:eval Name" => (k_here; (with_reducible show wpAny _ _ (eval _ (envOfC _ _ _ _ _)) _ _ _); (with_reducible rename At _ _ _ => hAt'); k_dflt (refine' nameX_L (by (k_asm)) (by (change At _ _ _; walk_at "mine:at")) ?_ (by (rfl)) (by (rfl))))
  k_with "m:mine:k_all" => ((with_reducible rename Lts _ _ => hL8); exact Lts.ne hL8 (by omega))
  k_with "m:mine:fn" => (refine' fn_at (by (k_asm)) (by (k_asm)) (by (k_is)))
  k_with "m:mine:argument" => (refine callWith_refP (splConsP ?_); refine wpP.of_any ?_; k_steps; (all_goals (try k_data)); refine splNilP ?_; refine ⟨by walk_at "mine:fn", ?_⟩)
  k_with "m:mine:mirror" => (k_dflt (refine' ClaimP.use (cn := Str.ofString "law") (mirror_ok _ _ (by (assumption))) (by (k_asm)) (by (k_asm)) (by (k_asm)) (by (k_asm)) (by (k_asm)) (by (first | exact rfl | assumption)) (by (ktr_room)) (by (ktr_units)) ?_); (all_goals (try k_data)); intro v h' tk' hv F' N'; (obtain ⟨t9, hv⟩ := hv); subst hv; dsimp only)
  k_with "m:mine:mem" => first | k_mem | (with_reducible assumption) | (refine List.mem_cons_of_mem _ ?_; walk_at "mine:mem")
  k_with "m:subscriptTail Name Slice ref ref" => (k_here; (with_reducible show wpAny _ _ (subscriptTail _ (PySem.Expr.Slice none (some _) none _) (PySem.Value.ref _) (PySem.Value.ref _)) _ _ _); k_dflt (refine' slice_upN (s := ⟨_, _, _, _, _⟩) (by (k_asm)) (by (k_asm)) (by (walk_at "mine:mem")) (by (assumption)) (by (constructor)) (by (omega)) ?_); intro D' h' us' hU' F' N' l1'; (try dsimp only); (try k_fold))
  k_with "m:subscriptTail Name Slice ref ref" => (k_here; (with_reducible show wpAny _ _ (subscriptTail _ (PySem.Expr.Slice (some _) none none _) (PySem.Value.ref _) (PySem.Value.ref _)) _ _ _); k_dflt (refine' slice_fromN (s := ⟨_, _, _, _, _⟩) (by (k_asm)) (by (k_asm)) (by (walk_at "mine:mem")) (by (assumption)) (by (constructor)) (by (omega)) ?_); intro D' h' us' hU' F' N' l1'; (try dsimp only); (try k_fold))
  k_with "m:subscriptTail Name Slice ref ref" => (k_here; (with_reducible show wpAny _ _ (subscriptTail _ (PySem.Expr.Slice (some _) (some _) none _) (PySem.Value.ref _) (PySem.Value.ref _)) _ _ _); k_dflt (refine' slice_bothN (s := ⟨_, _, _, _, _⟩) (by (k_asm)) (by (k_asm)) (by (walk_at "mine:mem")) (by (assumption)) (by (constructor)) (by (constructor)) (by (omega)) (by (omega)) (by (omega)) ?_); intro D' h' us' hU' F' N' l1'; (try dsimp only); (try k_fold))
  k_with "m:call builtin:bytes.join" => (k_here; (show wpAny _ _ (call (PySem.Value.builtin "bytes.join") [PySem.Value.bytes _ _, PySem.Value.ref _]) _ _ _); k_dflt (refine' join_N (by (k_asm)) (by (walk_at "mine:mem")) (by (with_reducible assumption)) ?_); intro t' _; (try dsimp only))
  k_with "m:eval Name" => (k_here; (with_reducible show wpAny _ _ (eval (PySem.Expr.Name (Str.ofString "size") _) (envOfC _ _ _ _ _)) _ _ _); k_dflt (refine' nameX_C (x := Str.ofString "size") (by (k_asm)) (by (rfl)) (by (k_mem)) (by (k_asm)) ?_ (by (rfl)) (by (rfl)); k_whole))
  k_with "m:eval Name" => (k_here; (with_reducible show wpAny _ _ (eval (PySem.Expr.Name (Str.ofString "names") _) (envOfC _ _ _ _ _)) _ _ _); k_dflt (refine' nameX_C (x := Str.ofString "names") (by (k_asm)) (by (rfl)) (by (k_mem)) (by (k_asm)) ?_ (by (rfl)) (by (rfl)); k_whole))
  k_with "m:eval Name" => (k_here; (with_reducible show wpAny _ _ (eval (PySem.Expr.Name (Str.ofString "whole") _) (envOfC _ _ _ _ _)) _ _ _); k_dflt (refine' nameX_C (x := Str.ofString "whole") (by (k_asm)) (by (rfl)) (by (k_mem)) (by (k_asm)) ?_ (by (rfl)) (by (rfl)); k_whole))
  k_with "m:mine:k_ne" => (refine neN ?_; (try dsimp only); first | assumption | (refine Ne.symm ?_; assumption))
  k_with "m:eval ListComp" => refine Stop.go ?_
  k_with "m:subscriptTail Name Slice ref ref" => (k_here; (with_reducible show wpAny _ _ (subscriptTail _ (PySem.Expr.Slice none none (some _) _) (PySem.Value.ref _) (PySem.Value.ref _)) _ _ _); k_dflt (refine' slice_back (s := ⟨_, _, _, _, _⟩) (by (k_asm)) (by (k_asm)) (by (walk_at "mine:mem")) (by (constructor)) (by (walk_at "mine:rowz")) ?_); intro D' h' F' N' l1'; (try dsimp only); (try k_fold))
  k_with "m:mine:rowz" => exact RowsAre.small (by assumption)
  trivial
section
/-- the fronts' rows -/
noncomputable def frontF (ns : List (Array UInt8)) (k : Nat) : List (Array UInt8) := (ns.take k).reverse.map Array.reverse
theorem RowsAre.small {vs : List PySem.Value} {f : Nat → List (Array UInt8)} (h : RowsAre vs f) : vs.length ≤ 1000000 := by
  have := BytesAre.length h
  rw [this, List.length_map, List.length_range]; decide
theorem RowsAre.size {f : Nat → List (Array UInt8)} (hf : ∀ k, (∀ b ∈ f k, Name b) ∧ (f k).length ≤ 8) {c : Array UInt8} (h : c ∈ ((List.range 9).map fun k => J (f k)).reverse) : c.size ≤ 1000 := by
  rw [List.mem_reverse] at h
  obtain ⟨i, _, rfl⟩ := List.mem_map.mp h
  have := J_size (hf i).1
  have := (hf i).2
  omega
theorem fronts_eq (ns : List (Array UInt8)) : (((List.range 9).map fun k => J (ns.take (8 - k))).reverse.map Array.reverse) = (List.range 9).map fun k => J (frontF ns k) := by
  have : List.range 9 = [0, 1, 2, 3, 4, 5, 6, 7, 8] := by decide
  rw [this]
  simp only [List.map_cons, List.map_nil, List.reverse_cons, List.reverse_nil, List.nil_append, List.cons_append, J_rev, frontF, Nat.sub_zero, Nat.sub_self, Nat.reduceSub]
set_option maxRecDepth 100000 in
set_option maxHeartbeats 4000000 in
theorem law_s5 (w : World) (mean : ExcName → Option PySem.Value) (mg mb : Str → Option PySem.Value) (h₀ : Heap) (L fa lr lc ln : Addr) (cd : PySem.Value) (yc : List PySem.Value) (ns : List (Array UInt8)) (nc : Nat) (oR oN o4 o5 o6 : Obj) (m : Str → Option PySem.Value) (s : Shared) (Q : Flow → Shared → Prop)
    (B : Below callerA h₀ [] h₀) (X : (Mine.lawK w.params).In h₀) (T : Top Mine.hd.view_1_2 (looseW Mine.hd.view_1_2 []) mean mg mb h₀)
    (hN : ∀ b ∈ ns, Name b) (hC : RowsAre yc fun k => ns.take (8 - k)) (hl : ns.length = 8)
    (hc : At m (Str.ofString "climb") (.ref lc)) (hr : At m (Str.ofString "rests") (.ref lr))
    (F : Fr h₀ L s.heap m) (N : News h₀ L s.heap [(lr, oR), (lc, listOf yc.toArray nc), (ln, oN), (L + 1 + 1 + 1 + 1 + 1 + 1, o6), (L + 1 + 1 + 1 + 1 + 1, o5), (L + 1 + 1 + 1 + 1, o4)])
    (k : ∀ (lf lo lu : Addr) (yf : List PySem.Value) (m' : Str → Option PySem.Value) (h : Heap) (tk : Nat), RowsAre yf (frontF ns) → At m' (Str.ofString "rests") (.ref lr) → At m' (Str.ofString "fronts") (.ref lf) → At m' (Str.ofString "found") (.ref lo) → At m' (Str.ofString "due") (.ref lu) →
      (∀ p ∈ [(lf, lstN yf), (lr, oR), (ln, oN), (L + 1 + 1 + 1 + 1 + 1 + 1, o6), (L + 1 + 1 + 1 + 1 + 1, o5), (L + 1 + 1 + 1 + 1, o4)], p.1 ≠ lo) →
      (∀ p ∈ [(lf, lstN yf), (lr, oR), (ln, oN), (L + 1 + 1 + 1 + 1 + 1 + 1, o6), (L + 1 + 1 + 1 + 1 + 1, o5), (L + 1 + 1 + 1 + 1, o4)], p.1 ≠ lu) → lu ≠ lo → (∀ p ∈ [(lr, oR), (ln, oN), (L + 1 + 1 + 1 + 1 + 1 + 1, o6), (L + 1 + 1 + 1 + 1 + 1, o5), (L + 1 + 1 + 1 + 1, o4)], p.1 ≠ lf) →
      Fr h₀ L h m' → News h₀ L h [(lu, lstN []), (lo, lstN []), (lf, lstN yf), (lr, oR), (ln, oN), (L + 1 + 1 + 1 + 1 + 1 + 1, o6), (L + 1 + 1 + 1 + 1 + 1, o5), (L + 1 + 1 + 1 + 1, o4)] →
      wpP Clean (model PySem.Challenge.rw_pd0128_01.row.prog w) (callerA.deeper (envOfC (Str.ofString "law") lawScope L fa cd)) (execs (lawBody.drop 11) (envOfC (Str.ofString "law") lawScope L fa cd)) Q (fun _ _ => False) { s with heap := h, toks := tk }) :
    wpP Clean (model PySem.Challenge.rw_pd0128_01.row.prog w) (callerA.deeper (envOfC (Str.ofString "law") lawScope L fa cd)) (execs (lawBody.drop 8) (envOfC (Str.ofString "law") lawScope L fa cd)) Q (fun _ _ => False) s := by
  revert X
  k_fill
  intro X
  unfold lawBody lawScope lawRec at k ⊢
  dsimp only [List.drop] at k ⊢
  have hz : ∀ c, c ∈ ((List.range 9).map fun k => J (ns.take (8 - k))).reverse → c.size ≤ 1000 := fun c h => RowsAre.size (f := fun k => ns.take (8 - k)) (fun k => ⟨fun b hb => hN b (List.mem_of_mem_take hb), by rw [List.length_take]; omega⟩) h
  have hCr : BytesAre yc.reverse ((List.range 9).map fun k => J (ns.take (8 - k))).reverse := BytesAre.rev hC
  refine execsP ?_
  refine Assign_LC clean_kept (by rfl) (by with_unfolding_all rfl) rfl (by decide) ?_
  refine wpP.of_any ?_
  k_steps
  all_goals (try k_data)
  (with_reducible rename Fr _ _ _ _ => F₁)
  (with_reducible rename News _ _ _ _ => N₁)
  refine' comp_lst clean_kept rfl (by decide) rfl (by rfl) F₁ N₁ ?km ?hz (MirJ _ ((List.range 9).map fun k => J (ns.take (8 - k))).reverse) ?hkeep (fun _ _ _ h => h.len) MirJ.start ?turn ?fin
  case km => k_mem
  case hz => rw [List.length_reverse]; exact RowsAre.small hC
  case hkeep =>
    rintro i ys nw ⟨rfl, _⟩
    k_mem
  case turn =>
    rintro i v ys nw hi hJ h₂ tk₂ I oI C oC D m₂ off ne hoC hm₂ F₂ N₂
    clear ne
    obtain rfl := hJ.1
    obtain ⟨c, t₂, rfl, hc⟩ := hCr.getV hi
    have hcz : c.size ≤ 1000 := hz c (List.mem_of_getElem? hc)
    clear F₁ N₁
    refine Tests_nil ?_
    rw [if_pos rfl]
    refine CallP ?_
    k_steps
    all_goals (try k_data)
    walk_at "mine:argument"
    walk_at "mine:mirror"
    exact CEnd.intro0 (by assumption) (by assumption) off (hJ.next hc)
  case fin =>
    intro ys nw hJ
    obtain ⟨rfl, hB⟩ := MirJ.fin hCr hJ
    rw [fronts_eq] at hB
    refine' CFin.assignQ ?e1 ?e2 ?e3 ?_
    case e1 => rfl
    case e2 => rfl
    case e3 => rfl
    intro D h₂ tk₂ F₂ N₂ off
    clear F₁ N₁
    refine execsP ?_
    refine wpP.of_any ?_
    k_steps
    all_goals (try k_data)
    refine execsP ?_
    refine wpP.of_any ?_
    k_steps
    all_goals (try k_data)
    refine k D _ _ ys _ _ _ hB ?_ (At.skip (by decide) (At.skip (by decide) At.here)) (At.skip (by decide) At.here) At.here ?_ ?_ ?_ ?_ (by assumption) (News.less ?_ (by assumption))
    · exact At.skip (by decide) (At.skip (by decide) (At.skip (by decide) (by assumption)))
    · simp only [List.forall_mem_cons, List.not_mem_nil, false_implies, implies_true, and_true]
      refine ⟨?_, ?_, ?_, ?_, ?_, ?_⟩ <;> (show @Ne Nat _ _) <;> omega
    · simp only [List.forall_mem_cons, List.not_mem_nil, false_implies, implies_true, and_true]
      refine ⟨?_, ?_, ?_, ?_, ?_, ?_⟩ <;> (show @Ne Nat _ _) <;> omega
    · show @Ne Nat _ _
      omega
    · intro p hp
      refine off p ?_
      simp only [List.mem_cons, List.not_mem_nil, or_false] at hp ⊢
      rcases hp with h | h | h | h | h <;> simp only [h, true_or, or_true]
    · intro p hp
      simp only [List.mem_cons, List.not_mem_nil, or_false] at hp ⊢
      rcases hp with h | h | h | h | h | h | h | h <;> simp only [h, true_or, or_true, lstN, List.length_nil]
end
section
open PySem PySem.W PyProof.Rows PySem.Calls
set_option maxRecDepth 100000

/-- names, eight at most -/
noncomputable def NL (xs : List (Array UInt8)) : Prop := (∀ b ∈ xs, Name b) ∧ xs.length ≤ 8
theorem NL.good {xs : List (Array UInt8)} (h : NL xs) : ∀ b ∈ xs, Good b := fun b hb => (h.1 b hb).1
theorem NL.drop {xs : List (Array UInt8)} (h : NL xs) (k : Nat) : NL (xs.drop k) := ⟨fun b hb => h.1 b (List.mem_of_mem_drop hb), by rw [List.length_drop]; have := h.2; omega⟩
theorem NL.front {xs : List (Array UInt8)} (h : NL xs) (k : Nat) : NL (frontF xs k) := ⟨fun b hb => by
  obtain ⟨c, hc, rfl⟩ := List.mem_map.mp hb
  exact (h.1 c (List.mem_of_mem_take (List.mem_reverse.mp hc))).rev, by
  unfold frontF; rw [List.length_map, List.length_reverse, List.length_take]; have := h.2; omega⟩
theorem NL.lcp {xs ys : List (Array UInt8)} (h : NL xs) : NL (lcp xs ys) := ⟨fun b hb => h.1 b (lcp_mem _ _ _ hb), Nat.le_trans (lcp_len _ _) h.2⟩
theorem NL.size {xs : List (Array UInt8)} (h : NL xs) : (J xs).size ≤ 100 := by
  have := J_size h.1
  have := h.2
  omega
theorem Claim.mono {D U : Nat} {f : Addr} {vs : List PySem.Value} {R R' : PySem.Value → Prop} (C : Claim D U f vs R) (h : ∀ v, R v → R' v) : Claim D U f vs R' :=
  fun w p news s Q E good back => C w p news s Q E good fun v g tk r => back v g tk (h v r)
theorem sharedJ_ok {xs ys : List (Array UInt8)} (t u : Tok) (hx : NL xs) (hy : NL ys) : Claim 7 50 155 [.bytes (J xs) t, .bytes (J ys) u] (fun v => ∃ A t', A = lcp xs ys ∧ NL A ∧ v = .bytes (J A) t') := by
  refine (shared_ok (J xs) (J ys) t u hx.size hy.size (parts_size (by decide) hx.1 (by have := hx.2; omega)) (parts_size (by decide) hy.1 (by have := hy.2; omega)) (parts_start hx.good) (parts_start hy.good)).mono ?_
  rintro v ⟨t', rfl⟩
  exact ⟨_, t', rfl, hx.lcp, by rw [shared_J hx.good hy.good]⟩
theorem sizeJ_ok {xs : List (Array UInt8)} (t : Tok) (hx : NL xs) : Claim 1 8 162 [.bytes (J xs) t] (fun v => ∃ t', v = .int ((xs.length : Nat) : Int) t') := by
  refine (size_ok (J xs) t (Nat.le_trans hx.size (by decide))).mono ?_
  rintro v ⟨t', rfl⟩
  exact ⟨t', by rw [size_J hx.good]⟩
theorem row_get {f : Nat → List (Array UInt8)} {k : Nat} (h : k ≤ 8) : ((List.range 9).map fun k => J (f k)).getD k #[] = J (f k) := by
  rw [List.getD_eq_getElem?_getD, List.getElem?_map, List.getElem?_range (by omega)]
  rfl
section
variable {prog : Program} {w : World} {A : Around} {E : PySem.Value → Shared → Prop} {s : Shared} {h₀ : Heap} {L : Addr} {m : Str → Option PySem.Value} {news : List (Addr × Obj)} {value slice : PySem.Expr} {Q : PySem.Value → Shared → Prop}
theorem item_J1 {a : Addr} {vs : List PySem.Value} {f : Nat → List (Array UInt8)} {n p : Nat} {u : Tok} (N : News h₀ L s.heap news) (hm : (a, listOf vs.toArray n) ∈ news) (hB : RowsAre vs f) (h1 : p ≤ 8) (h : ∀ t, Q (.bytes (J (f p)) t) s)
    (hs : subscripted slice false (.ref a) (.int (p : Int) u) = operate [.ref a, .int (p : Int) u] (getItem (.ref a) (.int (p : Int) u)) := by with_unfolding_all rfl) :
    wpAny (model prog w) A (subscriptTail value slice (.ref a) (.int (p : Int) u)) Q E s :=
  item_bytes N hm hB (by omega) (by rw [List.length_map, List.length_range]; omega) (by rw [List.length_map, List.length_range]; decide) (fun t => by rw [Int.toNat_natCast, row_get h1]; exact h t) hs
theorem item_J2 {a : Addr} {vs : List PySem.Value} {f : Nat → List (Array UInt8)} {n p q : Nat} {u : Tok} (N : News h₀ L s.heap news) (hm : (a, listOf vs.toArray n) ∈ news) (hB : RowsAre vs f) (h1 : p + q ≤ 8) (h : ∀ t, Q (.bytes (J (f (p + q))) t) s)
    (hs : subscripted slice false (.ref a) (.int ((p : Int) + (q : Int)) u) = operate [.ref a, .int ((p : Int) + (q : Int)) u] (getItem (.ref a) (.int ((p : Int) + (q : Int)) u)) := by with_unfolding_all rfl) :
    wpAny (model prog w) A (subscriptTail value slice (.ref a) (.int ((p : Int) + (q : Int)) u)) Q E s :=
  item_bytes N hm hB (by omega) (by rw [List.length_map, List.length_range]; omega) (by rw [List.length_map, List.length_range]; decide) (fun t => by rw [show ((p : Int) + (q : Int)).toNat = p + q by omega, row_get h1]; exact h t) hs
end
theorem rev_inj {a b : Array UInt8} (h : a.reverse = b.reverse) : a = b := by
  have := congrArg Array.reverse h
  simpa using this
theorem ahead_len {ns : List (Array UInt8)} {s p : Nat} (h : p + s ≤ ns.length) : (lcp (frontF ns p) (frontF ns (p + s))).length = bwd (bits ns s) p := bwd_lcp (fun _ _ => rev_inj) h
theorem behind_len (ns : List (Array UInt8)) (s p : Nat) : (lcp (ns.drop p) (ns.drop (p + s))).length = fwd (bits ns s) p := fwd_lcp ns s p
theorem ahead_eq {ns A : List (Array UInt8)} {s p : Nat} (h : p ≤ ns.length) (hA : A = lcp (frontF ns p) (frontF ns (p + s))) : A.length ≤ p ∧ (J A).reverse = J ((ns.take p).drop (p - A.length)) := by
  have e := lcp_take (frontF ns p) (frontF ns (p + s))
  rw [← hA] at e
  have hl : A.length ≤ p := by
    rw [hA]
    refine Nat.le_trans (lcp_len _ _) ?_
    unfold frontF
    rw [List.length_map, List.length_reverse, List.length_take]; omega
  refine ⟨hl, ?_⟩
  rw [J_rev]
  congr 1
  rw [e, List.length_take]
  have hf : (frontF ns p).length = p := by unfold frontF; rw [List.length_map, List.length_reverse, List.length_take]; omega
  rw [hf, Nat.min_eq_left hl]
  unfold frontF
  rw [← List.map_take, ← List.map_reverse, List.map_map, List.take_reverse, List.reverse_reverse, List.length_take, Nat.min_eq_left h]
  have : (Array.reverse ∘ Array.reverse : Array UInt8 → Array UInt8) = id := funext fun x => by simp
  rw [this, List.map_id]
theorem behind_eq {ns A : List (Array UInt8)} {s p : Nat} (hA : A = lcp (ns.drop p) (ns.drop (p + s))) : A.length ≤ ns.length - p ∧ J A = J ((ns.take (p + A.length)).drop p) := by
  have e := lcp_take (ns.drop p) (ns.drop (p + s))
  rw [← hA] at e
  refine ⟨?_, ?_⟩
  · rw [hA]
    refine Nat.le_trans (lcp_len _ _) ?_
    rw [List.length_drop]; exact Nat.le_refl _
  · rw [List.drop_take, Nat.add_sub_cancel_left, ← e]
theorem behind_le {ns A : List (Array UInt8)} {s p : Nat} (hA : A = lcp (ns.drop p) (ns.drop (p + s))) : A.length ≤ ns.length - (p + s) := by
  rw [hA, lcp_comm]
  refine Nat.le_trans (lcp_len _ _) ?_
  rw [List.length_drop]; exact Nat.le_refl _
/-- a stretch as a datum -/
noncomputable def d3 (t : T3) : Dat := .tuple [.int (t.1 : Int), .int (t.2.1 : Int), .int (t.2.2 : Int)]
noncomputable def d2 (t : T2) : Dat := .tuple [.int (t.1 : Int), .int (t.2 : Int)]
theorem d3_inj {a b : T3} (h : d3 a = d3 b) : a = b := by
  obtain ⟨a1, a2, a3⟩ := a
  obtain ⟨b1, b2, b3⟩ := b
  simp only [d3, Dat.tuple.injEq, List.cons.injEq, Dat.int.injEq, Int.natCast_inj, and_true] at h
  obtain ⟨rfl, rfl, rfl⟩ := h
  rfl
theorem d2_inj {a b : T2} (h : d2 a = d2 b) : a = b := by
  obtain ⟨a1, a2⟩ := a
  obtain ⟨b1, b2⟩ := b
  simp only [d2, Dat.tuple.injEq, List.cons.injEq, Dat.int.injEq, Int.natCast_inj, and_true] at h
  obtain ⟨rfl, rfl⟩ := h
  rfl
theorem d3_mem {a : T3} {l : List T3} : d3 a ∈ l.map d3 ↔ a ∈ l := ⟨fun h => by
  obtain ⟨b, hb, e⟩ := List.mem_map.mp h
  rwa [← d3_inj e], fun h => List.mem_map_of_mem h⟩
theorem d2_mem {a : T2} {l : List T2} : d2 a ∈ l.map d2 ↔ a ∈ l := ⟨fun h => by
  obtain ⟨b, hb, e⟩ := List.mem_map.mp h
  rwa [← d2_inj e], fun h => List.mem_map_of_mem h⟩
theorem d3_list {a b : List T3} (h : a.map d3 = b.map d3) : a = b := List.map_inj_right (fun _ _ => d3_inj) |>.mp h
theorem place_ok {s j : Nat} (hs : 1 ≤ s ∧ s ≤ 4) (hj : j < placesN s) : j * s + s < 8 := by
  obtain ⟨h1, h2⟩ := hs
  have : s = 1 ∨ s = 2 ∨ s = 3 ∨ s = 4 := by omega
  rcases this with rfl | rfl | rfl | rfl
  · have : placesN 1 = 7 := rfl
    omega
  · have : placesN 2 = 3 := rfl
    omega
  · have : placesN 3 = 2 := rfl
    omega
  · have : placesN 4 = 1 := rfl
    omega
theorem range_ok {s : Nat} (hs : 1 ≤ s ∧ s ≤ 4) : Builtin.Range.small 0 (8 - (s : Int)) (s : Int) = true ∧ Builtin.Range.rangeSize 0 (8 - (s : Int)) (s : Int) = ((placesN s : Nat) : Int) := by
  obtain ⟨h1, h2⟩ := hs
  have : s = 1 ∨ s = 2 ∨ s = 3 ∨ s = 4 := by omega
  rcases this with rfl | rfl | rfl | rfl <;> decide
end
theorem rules_L6 : True := by
  k_with_none
  k_with "m:call type:type" => (k_here; (with_reducible show wpAny _ _ (call (Value.type "type") [Value.bytes _ _]) _ _ _); (refine type_bytes ?_))
  k_with "m:call builtin:issubclass" => (k_here; (show wpAny _ _ (call (Value.builtin "issubclass") [Value.type "bytes", Value.ref _]) _ _ _); k_dflt (refine' issub_N (by (k_asm)) (by (k_mem)) ?_))
  k_with "m:mine:news" => first | assumption | (refine cb_drop (by assumption) ?_; intro p hp; repeat (first | exact hp | refine List.mem_cons_of_mem _ ?_))
  k_with "m:mine:size" => first | omega | (simp only [Array.size_append, List.size_toArray, List.length_cons, List.length_nil] at *; omega)
  k_with "m:getMethod bytes" => (k_here; (with_reducible first | refine meth FB.slot_bytes_startswith FB.type_bytes_startswith ?_ | refine meth FB.slot_bytes_endswith FB.type_bytes_endswith ?_ | refine meth slot_rfind type_rfind ?_ | refine meth slot_rstrip type_rstrip ?_ | refine meth slot_split type_split ?_ | refine meth slot_join type_join ?_))
  k_with "m:call builtin:bytes.startswith" => (k_here; (show wpAny _ _ (call (Value.builtin "bytes.startswith") [Value.bytes _ _, Value.bytes _ _]) _ _ _); (refine call_starts ?_))
  k_with "m:call builtin:bytes.endswith" => (k_here; (show wpAny _ _ (call (Value.builtin "bytes.endswith") [Value.bytes _ _, Value.bytes _ _]) _ _ _); (refine call_ends ?_))
  k_with "m:call builtin:bytes.rfind" => (k_here; (show wpAny _ _ (call (Value.builtin "bytes.rfind") [Value.bytes _ _, Value.bytes _ _]) _ _ _); (refine call_rfind ?_))
  k_with "m:call builtin:bytes.rstrip" => (k_here; (show wpAny _ _ (call (Value.builtin "bytes.rstrip") [Value.bytes _ _, Value.bytes _ _]) _ _ _); (refine call_rstrip (by walk_at "mine:size") ?_); intro _ _)
  k_with "m:truthy bytes" => (k_here; (with_reducible show wpAny _ _ (truthy (Value.bytes _ _)) _ _ _); (refine truthy_bytes (by walk_at "mine:size") ?_))
  k_with "m:call builtin:len" => (k_here; (show wpAny _ _ (call (Value.builtin "len") [Value.bytes _ _]) _ _ _); (refine len_bytes (by walk_at "mine:size") ?_))
  k_with "m:subscriptTail" => (k_here; (with_reducible show wpAny _ _ (subscriptTail _ (Expr.Slice _ _ none _) (Value.bytes _ _) (Value.ref _)) _ _ _); (with_reducible rename Fr _ _ _ _ => F'); (with_reducible rename News _ _ _ _ => N'); (refine slice_B (s := ⟨_, _, _, _, _⟩) F' N' (by constructor) (by constructor) (by walk_at "mine:size") ?_); intro _ _ _ F' N' hsz')
  k_with "m:binaryOp Mult bytes int" => (k_here; (with_reducible show wpAny _ _ (binaryOp Operator.Mult (Value.bytes _ _) (Value.int _ _)) _ _ _); (refine mul_one (by omega) (by walk_at "mine:size") ?_); intro _ _)
  k_with "m:binaryOp Add bytes bytes" => (k_here; (with_reducible show wpAny _ _ (binaryOp Operator.Add (Value.bytes _ _) (Value.bytes _ _)) _ _ _); (refine KBy.add_bytes (by walk_at "mine:size") ?_); intro _ _)
  k_with "m:compareOp NotEq bytes bytes" => (k_here; (refine ne_bytes ?_))
  k_with "m:compareOp Eq bytes bytes" => (k_here; (refine eq_bytes ?_))
  k_with "m:exec Try" => (k_here; (refine Try_calm ?_))
  k_with "m:mine:passes_own" => exact fun _ _ h => (show False from h).elim
  k_with "m:inplaceOp Add" => (k_here; (with_reducible show wpAny _ _ (inplaceOp Operator.Add (Value.bytes _ _) (Value.bytes _ _)) _ _ _); (refine iadd_bytes (by walk_at "mine:size") ?_); intro _ _)
  k_with "m:call builtin:bytes.split" => (k_here; (show wpAny _ _ (call (Value.builtin "bytes.split") [Value.bytes _ _, Value.bytes _ _]) _ _ _); k_dflt (refine' call_split1 (by (k_asm)) (by (k_asm)) (by (walk_at "mine:size")) ?_); intro l' h' vs' k' hv' hn' F' N' l1'; (try dsimp only))
  k_with "m:call builtin:len" => (k_here; (show wpAny _ _ (call (Value.builtin "len") [Value.ref _]) _ _ _); k_dflt (refine' len_L (by (k_asm)) (by (k_mem)) (by (omega)) ?_); intro _ _)
  k_with "m:mine:at" => with_reducible (first | exact At.here | assumption | exact At.skip (by decide) (by walk_at "mine:at"))
  k_with "m:eval Name" => (k_here; (with_reducible fail_if_success show wpAny _ _ (eval _ (compEnvC _ _ _ _)) _ _ _); (with_reducible fail_if_success show wpAny _ _ (eval _ (compEnv _ _ _)) _ _ _); (with_reducible fail_if_success show wpAny _ _ (eval _ (envOfC _ _ _ _ _)) _ _ _); (with_reducible rename At _ _ _ => hAt'); k_dflt (refine' ld (by (k_asm)) (by (change At _ _ _; walk_at "mine:at")) ?_))
  k_with "m:loadName" => (k_here; (with_reducible fail_if_success show wpAny _ _ (loadName (envOfC _ _ _ _ _) _) _ _ _); (with_reducible rename At _ _ _ => hAt'); k_dflt (refine' ldn (by (k_asm)) (by (change At _ _ _; walk_at "mine:at")) ?_))
  k_with "m:subscriptTail" => (k_here; (with_reducible show wpAny _ _ (subscriptTail _ _ (Value.ref _) (Value.int (-1) _)) _ _ _); k_dflt (refine' item_last (by (k_asm)) (by (k_mem)) ?_))
  k_with "m:call ref" => (k_here; (with_reducible show wpAny _ _ (call (Value.ref 94) [Value.bytes _ _]) _ _ _); k_dflt (refine' Claim.use (fspath_ok _ _) (by (k_asm)) (by (k_asm)) (by (k_asm)) (by (k_asm)) (by (k_asm)) (by (first | exact rfl | assumption)) (by (ktr_room)) (by (ktr_units)) ?_); intro v h' tk' hv F' N'; subst hv; (try dsimp only); (try k_fold))
  k_with "m:call ref" => (k_here; (with_reducible show wpAny _ _ (call (Value.ref 108) [Value.bytes _ _]) _ _ _); k_dflt (refine' Claim.use (get_sep_ok _ _) (by (k_asm)) (by (k_asm)) (by (k_asm)) (by (k_asm)) (by (k_asm)) (by (first | exact rfl | assumption)) (by (ktr_room)) (by (ktr_units)) ?_); intro v h' tk' hv F' N'; (obtain ⟨t9, hv⟩ := hv); subst hv; (try dsimp only); (try k_fold))
  k_with "m:call ref" => (k_here; (with_reducible show wpAny _ _ (call (Value.ref 122) [Value.bytes _ _]) _ _ _); k_dflt (refine' Claim.use (dirname_ok _ _ (by (walk_at "mine:size"))) (by (k_asm)) (by (k_asm)) (by (k_asm)) (by (k_asm)) (by (k_asm)) (by (first | exact rfl | assumption)) (by (ktr_room)) (by (ktr_units)) ?_); intro v h' tk' hv F' N'; (obtain ⟨t9, hv⟩ := hv); subst hv; (try dsimp only); (try k_fold))
  k_with "m:call ref" => (k_here; (with_reducible show wpAny _ _ (call (Value.ref 127) [Value.ref _]) _ _ _); k_dflt (refine' common_use (by (k_asm)) (by (k_asm)) (by (k_asm)) (by (k_asm)) (by (k_asm)) (by (first | exact rfl | assumption)) (by (walk_at "mine:size")) (by (walk_at "mine:size")) (by (assumption)) (by (assumption)) (by (ktr_room)) (by (ktr_units)) ?_); intro v h' tk' hv F' N'; (obtain ⟨t9, hv⟩ := hv); subst hv; (try dsimp only); (try k_fold))
  k_with "m:eval Name" => (k_here; (with_reducible show wpAny _ _ (eval _ (envOfC _ _ _ _ _)) _ _ _); (with_reducible rename At _ _ _ => hAt'); k_dflt (refine' nameX_L (by (k_asm)) (by (change At _ _ _; walk_at "mine:at")) ?_ (by (rfl)) (by (rfl))))
  k_with "m:mine:k_all" => ((with_reducible rename Lts _ _ => hL8); exact Lts.ne hL8 (by omega))
  k_with "m:mine:fn" => (refine' fn_at (by (k_asm)) (by (k_asm)) (by (k_is)))
  k_with "m:mine:argument" => (refine callWith_refP (splConsP ?_); refine wpP.of_any ?_; k_steps; (all_goals (try k_data)); refine splNilP ?_; refine ⟨by walk_at "mine:fn", ?_⟩)
  k_with "m:mine:mirror" => (k_dflt (refine' ClaimP.use (cn := Str.ofString "law") (mirror_ok _ _ (by (assumption))) (by (k_asm)) (by (k_asm)) (by (k_asm)) (by (k_asm)) (by (k_asm)) (by (first | exact rfl | assumption)) (by (ktr_room)) (by (ktr_units)) ?_); (all_goals (try k_data)); intro v h' tk' hv F' N'; (obtain ⟨t9, hv⟩ := hv); subst hv; dsimp only)
  k_with "m:mine:mem" => first | k_mem | (with_reducible assumption) | (refine List.mem_cons_of_mem _ ?_; walk_at "mine:mem")
  k_with "m:subscriptTail Name Slice ref ref" => (k_here; (with_reducible show wpAny _ _ (subscriptTail _ (PySem.Expr.Slice none (some _) none _) (PySem.Value.ref _) (PySem.Value.ref _)) _ _ _); k_dflt (refine' slice_upN (s := ⟨_, _, _, _, _⟩) (by (k_asm)) (by (k_asm)) (by (walk_at "mine:mem")) (by (assumption)) (by (constructor)) (by (omega)) ?_); intro D' h' us' hU' F' N' l1'; (try dsimp only); (try k_fold))
  k_with "m:subscriptTail Name Slice ref ref" => (k_here; (with_reducible show wpAny _ _ (subscriptTail _ (PySem.Expr.Slice (some _) none none _) (PySem.Value.ref _) (PySem.Value.ref _)) _ _ _); k_dflt (refine' slice_fromN (s := ⟨_, _, _, _, _⟩) (by (k_asm)) (by (k_asm)) (by (walk_at "mine:mem")) (by (assumption)) (by (constructor)) (by (omega)) ?_); intro D' h' us' hU' F' N' l1'; (try dsimp only); (try k_fold))
  k_with "m:subscriptTail Name Slice ref ref" => (k_here; (with_reducible show wpAny _ _ (subscriptTail _ (PySem.Expr.Slice (some _) (some _) none _) (PySem.Value.ref _) (PySem.Value.ref _)) _ _ _); k_dflt (refine' slice_bothN (s := ⟨_, _, _, _, _⟩) (by (k_asm)) (by (k_asm)) (by (walk_at "mine:mem")) (by (assumption)) (by (constructor)) (by (constructor)) (by (omega)) (by (omega)) (by (omega)) ?_); intro D' h' us' hU' F' N' l1'; (try dsimp only); (try k_fold))
  k_with "m:call builtin:bytes.join" => (k_here; (show wpAny _ _ (call (PySem.Value.builtin "bytes.join") [PySem.Value.bytes _ _, PySem.Value.ref _]) _ _ _); k_dflt (refine' join_N (by (k_asm)) (by (walk_at "mine:mem")) (by (with_reducible assumption)) ?_); intro t' _; (try dsimp only))
  k_with "m:eval Name" => (k_here; (with_reducible show wpAny _ _ (eval (PySem.Expr.Name (Str.ofString "size") _) (envOfC _ _ _ _ _)) _ _ _); k_dflt (refine' nameX_C (x := Str.ofString "size") (by (k_asm)) (by (rfl)) (by (k_mem)) (by (k_asm)) ?_ (by (rfl)) (by (rfl)); k_whole))
  k_with "m:eval Name" => (k_here; (with_reducible show wpAny _ _ (eval (PySem.Expr.Name (Str.ofString "names") _) (envOfC _ _ _ _ _)) _ _ _); k_dflt (refine' nameX_C (x := Str.ofString "names") (by (k_asm)) (by (rfl)) (by (k_mem)) (by (k_asm)) ?_ (by (rfl)) (by (rfl)); k_whole))
  k_with "m:eval Name" => (k_here; (with_reducible show wpAny _ _ (eval (PySem.Expr.Name (Str.ofString "whole") _) (envOfC _ _ _ _ _)) _ _ _); k_dflt (refine' nameX_C (x := Str.ofString "whole") (by (k_asm)) (by (rfl)) (by (k_mem)) (by (k_asm)) ?_ (by (rfl)) (by (rfl)); k_whole))
  k_with "m:mine:k_ne" => (refine neN ?_; (try dsimp only); first | assumption | (refine Ne.symm ?_; assumption))
  k_with "m:mine:k_all" => with_reducible assumption
  k_with "m:eval ListComp" => refine Stop.go ?_
  k_with "m:mine:NL" => first | (with_reducible assumption) | exact NL.front (by assumption) _ | exact NL.drop (by assumption) _
  k_with "m:call ref" => (k_here; (with_reducible show wpAny _ _ (call (PySem.Value.ref 155) [PySem.Value.bytes _ _, PySem.Value.bytes _ _]) _ _ _); k_dflt (refine' Claim.use (cn := Str.ofString "law") (sharedJ_ok _ _ (by (walk_at "mine:NL")) (by (walk_at "mine:NL"))) (by (k_asm)) (by (k_asm)) (by (k_asm)) (by (k_asm)) (by (k_asm)) (by (first | exact rfl | assumption)) (by (ktr_room)) (by (ktr_units)) ?_); intro v h' tk' hv F' N'; (obtain ⟨A9, t9, hA9, hNL9, hv⟩ := hv); subst hv; (try dsimp only); (try k_fold))
  k_with "m:call ref" => (k_here; (with_reducible show wpAny _ _ (call (PySem.Value.ref 162) [PySem.Value.bytes _ _]) _ _ _); k_dflt (refine' Claim.use (cn := Str.ofString "law") (sizeJ_ok _ (by (walk_at "mine:NL"))) (by (k_asm)) (by (k_asm)) (by (k_asm)) (by (k_asm)) (by (k_asm)) (by (first | exact rfl | assumption)) (by (ktr_room)) (by (ktr_units)) ?_); intro v h' tk' hv F' N'; (obtain ⟨t9, hv⟩ := hv); subst hv; (try dsimp only); (try k_fold))
  k_with "m:subscriptTail Name Name ref int" => (k_here; (with_reducible show wpAny _ _ (subscriptTail _ _ (PySem.Value.ref _) (PySem.Value.int _ _)) _ _ _); k_dflt (refine' item_J1 (by (k_asm)) (by (k_mem)) (by (with_reducible assumption)) (by (omega)) ?_); intro t9; (try dsimp only))
  k_with "m:subscriptTail Name BinOp ref int" => (k_here; (with_reducible show wpAny _ _ (subscriptTail _ _ (PySem.Value.ref _) (PySem.Value.int _ _)) _ _ _); k_dflt (refine' item_J2 (by (k_asm)) (by (k_mem)) (by (with_reducible assumption)) (by (omega)) ?_); intro t9; (try dsimp only))
  k_with "m:mine:mirror" => (k_dflt (refine' ClaimP.use (cn := Str.ofString "law") (mirror_ok _ _ (by (exact Nat.le_trans (NL.size (by assumption)) (by decide)))) (by (k_asm)) (by (k_asm)) (by (k_asm)) (by (k_asm)) (by (k_asm)) (by (first | exact rfl | assumption)) (by (ktr_room)) (by (ktr_units)) ?_); (all_goals (try k_data)); intro v h' tk' hv F' N'; (obtain ⟨t9, hv⟩ := hv); subst hv; dsimp only)
  k_with "m:compareOp NotEq ref ref" => refine Stop.go ?_
  k_with "m:compareOp NotIn" => refine Stop.go ?_
  k_with "m:call builtin:list.append" => refine Stop.go ?_
  trivial
section
theorem lt_of_allLt {d : Addr} {l : List (Addr × Obj)} (h : AllLt d l) : ∀ p ∈ l, @LT.lt Nat _ p.1 d := by
  induction l with
  | nil => intro p hp; cases hp
  | cons q r ih =>
    intro p hp
    unfold AllLt at h
    rcases List.mem_cons.mp hp with e | hp
    · rw [e]; exact h.1
    · exact ih h.2 p hp
theorem dat_head {t : Addr} {a b c : Nat} {u v x : Tok} {n : Nat} {r : List (Addr × Obj)} : DatIn ((t, { cls := .type "tuple", data := .seq #[PySem.Value.int (a : Int) u, PySem.Value.int (b : Int) v, PySem.Value.int (c : Int) x] n }) :: r) (.ref t) (d3 (a, b, c)) :=
  DatIn.tuple (vs := [PySem.Value.int (a : Int) u, PySem.Value.int (b : Int) v, PySem.Value.int (c : Int) x]) List.mem_cons_self (.cons (.int _ _) (.cons (.int _ _) (.cons (.int _ _) .nil)))
theorem News.reorder {h₀ h : Heap} {L : Addr} {a b c d e f g i j k l : Addr × Obj} {tl : List (Addr × Obj)} (N : News h₀ L h (a :: b :: c :: d :: e :: f :: g :: i :: j :: k :: l :: tl)) : News h₀ L h (b :: c :: d :: e :: f :: g :: i :: j :: k :: l :: a :: tl) := News.less (fun q hq => by
  simp only [List.mem_cons] at hq ⊢
  rcases hq with h | h | h | h | h | h | h | h | h | h | h | h <;> simp only [h, true_or, or_true]) N
theorem d3_ok (l : List T3) : ∀ d ∈ l.map d3, kqdOk 8 d = true := by
  intro d hd
  obtain ⟨x, _, rfl⟩ := List.mem_map.mp hd
  rfl
section
variable {prog : Program} {w : World} {A : Around} {E : PySem.Value → Shared → Prop} {s : Shared} {h₀ : Heap} {L a b : Addr} {news n₁ n₂ : List (Addr × Obj)} {ka kb : Nat} {xs ys : List PySem.Value} {ds es : List Dat} {x : PySem.Value} {d : Dat} {Q : PySem.Value → Shared → Prop}
open Classical in
theorem notIn_D (N : News h₀ L s.heap news) (ma : (a, listOf xs.toArray ka) ∈ news) (Da : DatAll n₁ xs ds) (sa : ∀ p ∈ n₁, p ∈ news)
    (Dx : DatIn n₂ x d) (sx : ∀ p ∈ n₂, p ∈ news) (ha : ∀ d ∈ ds, kqdOk 8 d = true) (hd : kqdOk 8 d = true) (hu : A.units + 64 < cLine) (h : ∀ b : Bool, (b = true ↔ d ∈ ds) → Q (.bool (!b)) s) : wpAny (model prog w) A (compareOp .NotIn x (.ref a)) Q E s :=
  kqd_notIn N ma rfl rfl Da sa Dx sx ha hd hu (h _ decide_eq_true_iff)
open Classical in
theorem eq_D (N : News h₀ L s.heap news) (ma : (a, listOf xs.toArray ka) ∈ news) (Da : DatAll n₁ xs ds) (sa : ∀ p ∈ n₁, p ∈ news)
    (mb : (b, listOf ys.toArray kb) ∈ news) (Db : DatAll n₂ ys es) (sb : ∀ p ∈ n₂, p ∈ news)
    (ha : ∀ d ∈ ds, kqdOk 8 d = true) (hb : ∀ d ∈ es, kqdOk 8 d = true) (hu : A.units + 64 < cLine) (h : ∀ b : Bool, (b = true ↔ ds = es) → Q (.bool b) s) : wpAny (model prog w) A (compareOp .Eq (.ref a) (.ref b)) Q E s :=
  kqd_eq N ma rfl rfl Da sa mb rfl rfl Db sb ha hb hu (h _ decide_eq_true_iff)
end
noncomputable def forBody : Stmt → List Stmt
  | .For _ _ b _ _ => b
  | _ => []
noncomputable def firstOf : List Stmt → List Stmt
  | st :: _ => forBody st
  | [] => []
noncomputable def outerBody : List Stmt := firstOf (lawBody.drop 11)
noncomputable def innerBody : List Stmt := firstOf outerBody
set_option maxRecDepth 100000 in
set_option maxHeartbeats 4000000 in
theorem law_turn (w : World) (mean : ExcName → Option PySem.Value) (mg mb : Str → Option PySem.Value) (h₀ : Heap) (L fa lr lf ln lo lu I1 I2 : Addr) (cd : PySem.Value) (yr yf yn vf : List PySem.Value) (ns : List (Array UInt8)) (fl : List T3) (nf p sz : Nat) (tp ts : Tok) (oI1 oI2 ou o4 o5 o6 : Obj) (tl : List (Addr × Obj)) (Away : Addr → Prop) (m : Str → Option PySem.Value) (s : Shared) (Q : Flow → Shared → Prop)
    (B : Below callerA h₀ [] h₀) (X : (Mine.lawK w.params).In h₀) (T : Top Mine.hd.view_1_2 (looseW Mine.hd.view_1_2 []) mean mg mb h₀)
    (hN : NamesAre yn ns) (hl : ns.length = 8) (hF : RowsAre yf (frontF ns)) (hR : RowsAre yr fun k => ns.drop k) (hs : 1 ≤ sz ∧ sz ≤ 4) (hp : p + sz < 8)
    (d4 : o4.data = .cell (some (.ref ln))) (d5 : o5.data = .cell (some (.int (sz : Int) ts)))
    (hr : At m (Str.ofString "rests") (.ref lr)) (hf : At m (Str.ofString "fronts") (.ref lf)) (ho : At m (Str.ofString "found") (.ref lo)) (hu : At m (Str.ofString "due") (.ref lu)) (hpl : At m (Str.ofString "place") (.int (p : Int) tp))
    (hD : DatAll tl vf (fl.map d3)) (hfl : fl.length ≤ 1000)
    (a1 : ∀ q ∈ tl, q.1 ≠ lo) (a2 : ∀ q ∈ [(lu, ou), (lf, lstN yf), (lr, lstN yr), (ln, lstN yn), (L + 1 + 1 + 1 + 1 + 1 + 1, o6), (L + 1 + 1 + 1 + 1 + 1, o5), (L + 1 + 1 + 1 + 1, o4)], q.1 ≠ lo) (a3 : I1 ≠ lo) (a4 : I2 ≠ lo) (a5 : ∀ q ∈ tl, Away q.1)
    (a6 : ∀ t, (∀ q ∈ (I2, oI2) :: (I1, oI1) :: (lo, listOf vf.toArray nf) :: (lu, ou) :: (lf, lstN yf) :: (lr, lstN yr) :: (ln, lstN yn) :: (L + 1 + 1 + 1 + 1 + 1 + 1, o6) :: (L + 1 + 1 + 1 + 1 + 1, o5) :: (L + 1 + 1 + 1 + 1, o4) :: tl, @LT.lt Nat _ q.1 t) → Away t)
    (F : Fr h₀ L s.heap m) (N : News h₀ L s.heap ((I2, oI2) :: (I1, oI1) :: (lo, listOf vf.toArray nf) :: (lu, ou) :: (lf, lstN yf) :: (lr, lstN yr) :: (ln, lstN yn) :: (L + 1 + 1 + 1 + 1 + 1 + 1, o6) :: (L + 1 + 1 + 1 + 1 + 1, o5) :: (L + 1 + 1 + 1 + 1, o4) :: tl))
    (k : ∀ (vf' : List PySem.Value) (nf' : Nat) (tl' : List (Addr × Obj)) (m' : Str → Option PySem.Value) (h : Heap) (tk : Nat), At m' (Str.ofString "rests") (.ref lr) → At m' (Str.ofString "fronts") (.ref lf) → At m' (Str.ofString "found") (.ref lo) → At m' (Str.ofString "due") (.ref lu) →
      DatAll tl' vf' ((fStep sz (bits ns sz) fl p).map d3) → (∀ q ∈ tl, q ∈ tl') → (∀ q ∈ tl', q.1 ≠ lo ∧ Away q.1) → Fr h₀ L h m' →
      News h₀ L h ((I2, oI2) :: (I1, oI1) :: (lo, listOf vf'.toArray nf') :: (lu, ou) :: (lf, lstN yf) :: (lr, lstN yr) :: (ln, lstN yn) :: (L + 1 + 1 + 1 + 1 + 1 + 1, o6) :: (L + 1 + 1 + 1 + 1 + 1, o5) :: (L + 1 + 1 + 1 + 1, o4) :: tl') → Q .next { s with heap := h, toks := tk }) :
    wpP Clean (model PySem.Challenge.rw_pd0128_01.row.prog w) (callerA.deeper (envOfC (Str.ofString "law") lawScope L fa cd)) (execs innerBody (envOfC (Str.ofString "law") lawScope L fa cd)) Q (fun _ _ => False) s := by
  have hNL : NL ns := hN.2
  obtain ⟨A, eA⟩ : ∃ A, A = lcp (frontF ns p) (frontF ns (p + sz)) := ⟨_, rfl⟩
  obtain ⟨C, eC⟩ : ∃ C, C = lcp (ns.drop p) (ns.drop (p + sz)) := ⟨_, rfl⟩
  obtain ⟨hA1, hA2⟩ := ahead_eq (by omega) eA
  obtain ⟨hC1, hC2⟩ := behind_eq eC
  have hC3 := behind_le eC
  have e1 : J ((ns.take ((p : Int)).toNat).drop ((p : Int) - (A.length : Int)).toNat) = (J A).reverse := by
    rw [hA2, Int.toNat_natCast, show ((p : Int) - (A.length : Int)).toNat = p - A.length by omega]
  have e2 : J ((ns.take ((p : Int) + (C.length : Int)).toNat).drop ((p : Int)).toNat) = J C := by
    rw [hC2, Int.toNat_natCast, show ((p : Int) + (C.length : Int)).toNat = p + C.length by omega]
  revert X
  k_fill
  intro X
  unfold innerBody outerBody lawBody lawScope lawRec
  dsimp only [List.drop, firstOf, forBody]
  refine execsP ?_
  refine wpP.of_any ?_
  k_steps
  all_goals (try k_data)
  refine execsP ?_
  refine wpP.of_any ?_
  k_steps
  all_goals (try k_data)
  refine execsP ?_
  refine wpP.of_any ?_
  k_steps
  all_goals (try k_data)
  refine execsP ?_
  refine wpP.of_any ?_
  k_steps
  all_goals (try k_data)
  refine execsP ?_
  refine IfP ?_
  refine Compare1P ?_
  refine ListP ?_
  refine splConsP ?_
  refine CallP ?_
  k_steps
  all_goals (try k_data)
  (with_reducible rename _ = lcp (frontF _ _) _ => hA)
  rw [← eA] at hA
  replace hA := hA.symm
  subst hA
  (with_reducible rename _ = lcp (List.drop _ _) _ => hBh)
  rw [← eC] at hBh
  replace hBh := hBh.symm
  subst hBh
  walk_at "mine:argument"
  walk_at "mine:mirror"
  refine splConsP ?_
  refine wpP.of_any ?_
  k_steps
  all_goals (try k_data)
  refine splNilP ?_
  k_steps
  all_goals (try k_data)
  refine wpP.of_any ?_
  k_steps
  all_goals (try k_data)
  (with_reducible rename News _ _ _ _ => N₅)
  rw [e1, e2] at N₅
  refine ne_BL (.cons (.cons .nil)) (.cons (.cons .nil)) N₅ (by k_mem) (by k_mem) (by ktr_units) ?_
  rw [decide_eq_true rfl]
  k_steps
  all_goals (try k_data)
  refine wpP.of_any ?_
  k_steps
  all_goals (try k_data)
  refine execsP ?_
  refine wpP.of_any ?_
  k_steps
  all_goals (try k_data)
  (with_reducible rename News _ _ _ _ => N₇)
  (with_reducible rename Fr _ _ _ _ => F₇)
  have i1 : ((p : Int) - (A.length : Int)) = ((p - A.length : Nat) : Int) := by omega
  have i2 : ((p : Int) + (C.length : Int) + (sz : Int)) = ((p + C.length + sz : Nat) : Int) := by omega
  rw [i1, i2] at N₇
  (rename _ ∧ _ => lD)
  have hst : fStep sz (bits ns sz) fl p = if p - A.length + sz ≤ p + C.length ∧ (sz, p - A.length, p + C.length + sz) ∉ fl then fl ++ [(sz, p - A.length, p + C.length + sz)] else fl := by
    unfold fStep
    rw [← ahead_len (by omega), ← behind_len, ← eA, ← eC]
  have hAw := a6 _ (lt_of_allLt lD.2.2.2.2)
  have hDo := Ne.symm (Nat.ne_of_lt lD.2.2.2.2.2.2.1)
  have N₈ := News.less (fun q hq => by
    rcases List.mem_cons.mp hq with h | hq
    · exact List.mem_cons.mpr (.inl h)
    · exact List.mem_cons_of_mem _ (List.mem_cons_of_mem _ (List.mem_cons_of_mem _ (List.mem_cons_of_mem _ (List.mem_cons_of_mem _ hq))))) N₇
  clear N₇
  refine execsP ?_
  refine wpP.of_any ?_
  k_steps
  all_goals (try k_data)
  · refine notIn_D N₈ (by k_mem) hD (by intro q hq; repeat (first | exact hq | refine List.mem_cons_of_mem _ ?_)) dat_head (fun q hq => hq) (d3_ok _) rfl (by ke_room) ?_
    intro bb hbb
    rw [d3_mem] at hbb
    by_cases hin : (sz, p - A.length, p + C.length + sz) ∈ fl
    · rw [hbb.mpr hin]
      k_steps
      all_goals (try k_data)
      dsimp only
      refine wpP.of_any ?_
      k_steps
      all_goals (try k_data)
      refine k vf nf tl _ _ _ ?g1 ?g2 ?g3 ?g4 ?g5 (fun q hq => hq) (fun q hq => ⟨a1 q hq, a5 q hq⟩) F₇ (News.less ?g6 N₈)
      case g5 => rw [hst, if_neg (fun x => x.2 hin)]; exact hD
      case g6 =>
        intro q hq
        exact List.mem_cons_of_mem _ hq
      all_goals walk_at "mine:at"
    · rw [Bool.eq_false_iff.mpr fun x => hin (hbb.mp x)]
      k_steps
      all_goals (try k_data)
      refine append_L (pre := [(_, _), (_, _), (_, _)]) (post := _) F₇ N₈ ?ap1 ?ap2 ?_ ?ap3
      case ap1 =>
        intro q hq
        simp only [List.mem_cons, List.not_mem_nil, or_false] at hq
        rcases hq with rfl | rfl | rfl
        · exact hDo
        · exact a4
        · exact a3
      case ap2 =>
        intro q hq
        have hq : q ∈ [(lu, ou), (lf, lstN yf), (lr, lstN yr), (ln, lstN yn), (L + 1 + 1 + 1 + 1 + 1 + 1, o6), (L + 1 + 1 + 1 + 1 + 1, o5), (L + 1 + 1 + 1 + 1, o4)] ++ tl := hq
        rcases List.mem_append.mp hq with hq | hq
        · exact a2 q hq
        · exact a1 q hq
      case ap3 =>
        have := hD.length
        rw [List.length_map] at this
        omega
      intro h₉ F₉ N₉
      refine wpAny_pure ?_
      dsimp only
      refine wpP.of_any ?_
      refine wpAny_pure ?_
      refine k _ _ _ _ _ _ ?j1 ?j2 ?j3 ?j4 ?j5 ?j8 ?j6 F₉ (News.reorder N₉)
      case j8 => exact fun q hq => List.mem_cons_of_mem _ hq
      case j5 =>
        rw [hst, if_pos ⟨by omega, hin⟩, List.map_append]
        exact (hD.mono fun q hq => List.mem_cons_of_mem _ hq).append (DatAll.one dat_head)
      case j6 =>
        intro q hq
        rcases List.mem_cons.mp hq with rfl | hq
        · exact ⟨hDo, hAw⟩
        · exact ⟨a1 q hq, a5 q hq⟩
      all_goals walk_at "mine:at"
  · dsimp only
    refine wpP.of_any ?_
    k_steps
    all_goals (try k_data)
    refine k vf nf tl _ _ _ ?g1 ?g2 ?g3 ?g4 ?g5 (fun q hq => hq) (fun q hq => ⟨a1 q hq, a5 q hq⟩) F₇ (News.less ?g6 N₈)
    case g5 => rw [hst, if_neg (fun x => by omega)]; exact hD
    case g6 =>
      intro q hq
      exact List.mem_cons_of_mem _ hq
    all_goals walk_at "mine:at"
end
theorem rules_L7 : True := by
  k_with_none
  k_with "m:call type:type" => (k_here; (with_reducible show wpAny _ _ (call (Value.type "type") [Value.bytes _ _]) _ _ _); (refine type_bytes ?_))
  k_with "m:call builtin:issubclass" => (k_here; (show wpAny _ _ (call (Value.builtin "issubclass") [Value.type "bytes", Value.ref _]) _ _ _); k_dflt (refine' issub_N (by (k_asm)) (by (k_mem)) ?_))
  k_with "m:mine:news" => first | assumption | (refine cb_drop (by assumption) ?_; intro p hp; repeat (first | exact hp | refine List.mem_cons_of_mem _ ?_))
  k_with "m:mine:size" => first | omega | (simp only [Array.size_append, List.size_toArray, List.length_cons, List.length_nil] at *; omega)
  k_with "m:getMethod bytes" => (k_here; (with_reducible first | refine meth FB.slot_bytes_startswith FB.type_bytes_startswith ?_ | refine meth FB.slot_bytes_endswith FB.type_bytes_endswith ?_ | refine meth slot_rfind type_rfind ?_ | refine meth slot_rstrip type_rstrip ?_ | refine meth slot_split type_split ?_ | refine meth slot_join type_join ?_))
  k_with "m:call builtin:bytes.startswith" => (k_here; (show wpAny _ _ (call (Value.builtin "bytes.startswith") [Value.bytes _ _, Value.bytes _ _]) _ _ _); (refine call_starts ?_))
  k_with "m:call builtin:bytes.endswith" => (k_here; (show wpAny _ _ (call (Value.builtin "bytes.endswith") [Value.bytes _ _, Value.bytes _ _]) _ _ _); (refine call_ends ?_))
  k_with "m:call builtin:bytes.rfind" => (k_here; (show wpAny _ _ (call (Value.builtin "bytes.rfind") [Value.bytes _ _, Value.bytes _ _]) _ _ _); (refine call_rfind ?_))
  k_with "m:call builtin:bytes.rstrip" => (k_here; (show wpAny _ _ (call (Value.builtin "bytes.rstrip") [Value.bytes _ _, Value.bytes _ _]) _ _ _); (refine call_rstrip (by walk_at "mine:size") ?_); intro _ _)
  k_with "m:truthy bytes" => (k_here; (with_reducible show wpAny _ _ (truthy (Value.bytes _ _)) _ _ _); (refine truthy_bytes (by walk_at "mine:size") ?_))
  k_with "m:call builtin:len" => (k_here; (show wpAny _ _ (call (Value.builtin "len") [Value.bytes _ _]) _ _ _); (refine len_bytes (by walk_at "mine:size") ?_))
  k_with "m:subscriptTail" => (k_here; (with_reducible show wpAny _ _ (subscriptTail _ (Expr.Slice _ _ none _) (Value.bytes _ _) (Value.ref _)) _ _ _); (with_reducible rename Fr _ _ _ _ => F'); (with_reducible rename News _ _ _ _ => N'); (refine slice_B (s := ⟨_, _, _, _, _⟩) F' N' (by constructor) (by constructor) (by walk_at "mine:size") ?_); intro _ _ _ F' N' hsz')
  k_with "m:binaryOp Mult bytes int" => (k_here; (with_reducible show wpAny _ _ (binaryOp Operator.Mult (Value.bytes _ _) (Value.int _ _)) _ _ _); (refine mul_one (by omega) (by walk_at "mine:size") ?_); intro _ _)
  k_with "m:binaryOp Add bytes bytes" => (k_here; (with_reducible show wpAny _ _ (binaryOp Operator.Add (Value.bytes _ _) (Value.bytes _ _)) _ _ _); (refine KBy.add_bytes (by walk_at "mine:size") ?_); intro _ _)
  k_with "m:compareOp NotEq bytes bytes" => (k_here; (refine ne_bytes ?_))
  k_with "m:compareOp Eq bytes bytes" => (k_here; (refine eq_bytes ?_))
  k_with "m:exec Try" => (k_here; (refine Try_calm ?_))
  k_with "m:mine:passes_own" => exact fun _ _ h => (show False from h).elim
  k_with "m:inplaceOp Add" => (k_here; (with_reducible show wpAny _ _ (inplaceOp Operator.Add (Value.bytes _ _) (Value.bytes _ _)) _ _ _); (refine iadd_bytes (by walk_at "mine:size") ?_); intro _ _)
  k_with "m:call builtin:bytes.split" => (k_here; (show wpAny _ _ (call (Value.builtin "bytes.split") [Value.bytes _ _, Value.bytes _ _]) _ _ _); k_dflt (refine' call_split1 (by (k_asm)) (by (k_asm)) (by (walk_at "mine:size")) ?_); intro l' h' vs' k' hv' hn' F' N' l1'; (try dsimp only))
  k_with "m:call builtin:len" => (k_here; (show wpAny _ _ (call (Value.builtin "len") [Value.ref _]) _ _ _); k_dflt (refine' len_L (by (k_asm)) (by (k_mem)) (by (omega)) ?_); intro _ _)
  k_with "m:mine:at" => with_reducible (first | exact At.here | assumption | exact At.skip (by decide) (by walk_at "mine:at"))
  k_with "m:eval Name" => (k_here; (with_reducible fail_if_success show wpAny _ _ (eval _ (compEnvC _ _ _ _)) _ _ _); (with_reducible fail_if_success show wpAny _ _ (eval _ (compEnv _ _ _)) _ _ _); (with_reducible fail_if_success show wpAny _ _ (eval _ (envOfC _ _ _ _ _)) _ _ _); (with_reducible rename At _ _ _ => hAt'); k_dflt (refine' ld (by (k_asm)) (by (change At _ _ _; walk_at "mine:at")) ?_))
  k_with "m:loadName" => (k_here; (with_reducible fail_if_success show wpAny _ _ (loadName (envOfC _ _ _ _ _) _) _ _ _); (with_reducible rename At _ _ _ => hAt'); k_dflt (refine' ldn (by (k_asm)) (by (change At _ _ _; walk_at "mine:at")) ?_))
  k_with "m:subscriptTail" => (k_here; (with_reducible show wpAny _ _ (subscriptTail _ _ (Value.ref _) (Value.int (-1) _)) _ _ _); k_dflt (refine' item_last (by (k_asm)) (by (k_mem)) ?_))
  k_with "m:call ref" => (k_here; (with_reducible show wpAny _ _ (call (Value.ref 94) [Value.bytes _ _]) _ _ _); k_dflt (refine' Claim.use (fspath_ok _ _) (by (k_asm)) (by (k_asm)) (by (k_asm)) (by (k_asm)) (by (k_asm)) (by (first | exact rfl | assumption)) (by (ktr_room)) (by (ktr_units)) ?_); intro v h' tk' hv F' N'; subst hv; (try dsimp only); (try k_fold))
  k_with "m:call ref" => (k_here; (with_reducible show wpAny _ _ (call (Value.ref 108) [Value.bytes _ _]) _ _ _); k_dflt (refine' Claim.use (get_sep_ok _ _) (by (k_asm)) (by (k_asm)) (by (k_asm)) (by (k_asm)) (by (k_asm)) (by (first | exact rfl | assumption)) (by (ktr_room)) (by (ktr_units)) ?_); intro v h' tk' hv F' N'; (obtain ⟨t9, hv⟩ := hv); subst hv; (try dsimp only); (try k_fold))
  k_with "m:call ref" => (k_here; (with_reducible show wpAny _ _ (call (Value.ref 122) [Value.bytes _ _]) _ _ _); k_dflt (refine' Claim.use (dirname_ok _ _ (by (walk_at "mine:size"))) (by (k_asm)) (by (k_asm)) (by (k_asm)) (by (k_asm)) (by (k_asm)) (by (first | exact rfl | assumption)) (by (ktr_room)) (by (ktr_units)) ?_); intro v h' tk' hv F' N'; (obtain ⟨t9, hv⟩ := hv); subst hv; (try dsimp only); (try k_fold))
  k_with "m:call ref" => (k_here; (with_reducible show wpAny _ _ (call (Value.ref 127) [Value.ref _]) _ _ _); k_dflt (refine' common_use (by (k_asm)) (by (k_asm)) (by (k_asm)) (by (k_asm)) (by (k_asm)) (by (first | exact rfl | assumption)) (by (walk_at "mine:size")) (by (walk_at "mine:size")) (by (assumption)) (by (assumption)) (by (ktr_room)) (by (ktr_units)) ?_); intro v h' tk' hv F' N'; (obtain ⟨t9, hv⟩ := hv); subst hv; (try dsimp only); (try k_fold))
  k_with "m:eval Name" => (k_here; (with_reducible show wpAny _ _ (eval _ (envOfC _ _ _ _ _)) _ _ _); (with_reducible rename At _ _ _ => hAt'); k_dflt (refine' nameX_L (by (k_asm)) (by (change At _ _ _; walk_at "mine:at")) ?_ (by (rfl)) (by (rfl))))
  k_with "m:mine:k_all" => ((with_reducible rename Lts _ _ => hL8); exact Lts.ne hL8 (by omega))
  k_with "m:mine:fn" => (refine' fn_at (by (k_asm)) (by (k_asm)) (by (k_is)))
  k_with "m:mine:argument" => (refine callWith_refP (splConsP ?_); refine wpP.of_any ?_; k_steps; (all_goals (try k_data)); refine splNilP ?_; refine ⟨by walk_at "mine:fn", ?_⟩)
  k_with "m:mine:mirror" => (k_dflt (refine' ClaimP.use (cn := Str.ofString "law") (mirror_ok _ _ (by (assumption))) (by (k_asm)) (by (k_asm)) (by (k_asm)) (by (k_asm)) (by (k_asm)) (by (first | exact rfl | assumption)) (by (ktr_room)) (by (ktr_units)) ?_); (all_goals (try k_data)); intro v h' tk' hv F' N'; (obtain ⟨t9, hv⟩ := hv); subst hv; dsimp only)
  k_with "m:mine:mem" => first | k_mem | (with_reducible assumption) | (refine List.mem_cons_of_mem _ ?_; walk_at "mine:mem")
  k_with "m:subscriptTail Name Slice ref ref" => (k_here; (with_reducible show wpAny _ _ (subscriptTail _ (PySem.Expr.Slice none (some _) none _) (PySem.Value.ref _) (PySem.Value.ref _)) _ _ _); k_dflt (refine' slice_upN (s := ⟨_, _, _, _, _⟩) (by (k_asm)) (by (k_asm)) (by (walk_at "mine:mem")) (by (assumption)) (by (constructor)) (by (omega)) ?_); intro D' h' us' hU' F' N' l1'; (try dsimp only); (try k_fold))
  k_with "m:subscriptTail Name Slice ref ref" => (k_here; (with_reducible show wpAny _ _ (subscriptTail _ (PySem.Expr.Slice (some _) none none _) (PySem.Value.ref _) (PySem.Value.ref _)) _ _ _); k_dflt (refine' slice_fromN (s := ⟨_, _, _, _, _⟩) (by (k_asm)) (by (k_asm)) (by (walk_at "mine:mem")) (by (assumption)) (by (constructor)) (by (omega)) ?_); intro D' h' us' hU' F' N' l1'; (try dsimp only); (try k_fold))
  k_with "m:subscriptTail Name Slice ref ref" => (k_here; (with_reducible show wpAny _ _ (subscriptTail _ (PySem.Expr.Slice (some _) (some _) none _) (PySem.Value.ref _) (PySem.Value.ref _)) _ _ _); k_dflt (refine' slice_bothN (s := ⟨_, _, _, _, _⟩) (by (k_asm)) (by (k_asm)) (by (walk_at "mine:mem")) (by (assumption)) (by (constructor)) (by (constructor)) (by (omega)) (by (omega)) (by (omega)) ?_); intro D' h' us' hU' F' N' l1'; (try dsimp only); (try k_fold))
  k_with "m:call builtin:bytes.join" => (k_here; (show wpAny _ _ (call (PySem.Value.builtin "bytes.join") [PySem.Value.bytes _ _, PySem.Value.ref _]) _ _ _); k_dflt (refine' join_N (by (k_asm)) (by (walk_at "mine:mem")) (by (with_reducible assumption)) ?_); intro t' _; (try dsimp only))
  k_with "m:eval Name" => (k_here; (with_reducible show wpAny _ _ (eval (PySem.Expr.Name (Str.ofString "size") _) (envOfC _ _ _ _ _)) _ _ _); k_dflt (refine' nameX_C (x := Str.ofString "size") (by (k_asm)) (by (rfl)) (by (k_mem)) (by (k_asm)) ?_ (by (rfl)) (by (rfl)); k_whole))
  k_with "m:eval Name" => (k_here; (with_reducible show wpAny _ _ (eval (PySem.Expr.Name (Str.ofString "names") _) (envOfC _ _ _ _ _)) _ _ _); k_dflt (refine' nameX_C (x := Str.ofString "names") (by (k_asm)) (by (rfl)) (by (k_mem)) (by (k_asm)) ?_ (by (rfl)) (by (rfl)); k_whole))
  k_with "m:eval Name" => (k_here; (with_reducible show wpAny _ _ (eval (PySem.Expr.Name (Str.ofString "whole") _) (envOfC _ _ _ _ _)) _ _ _); k_dflt (refine' nameX_C (x := Str.ofString "whole") (by (k_asm)) (by (rfl)) (by (k_mem)) (by (k_asm)) ?_ (by (rfl)) (by (rfl)); k_whole))
  k_with "m:mine:k_ne" => (refine neN ?_; (try dsimp only); first | assumption | (refine Ne.symm ?_; assumption))
  k_with "m:mine:k_all" => with_reducible assumption
  k_with "m:eval ListComp" => refine Stop.go ?_
  k_with "m:compareOp Eq ref ref" => refine Stop.go ?_
  k_with "m:compareOp NotIn" => refine Stop.go ?_
  trivial
section
theorem whRow_succ (s : Nat) (bs : List Bool) (f k : Nat) : whRow s bs f (k + 1) = whRow s bs f k ++ if whIn s bs f (f + 2 * s + k) = true then [(f, f + 2 * s + k)] else [] := by
  unfold whRow
  rw [List.range_succ, List.map_append, List.filter_append, List.map_singleton, List.filter_cons, List.filter_nil]
theorem wh_succ (s : Nat) (bs : List Bool) (k : Nat) : wh s bs (k + 1) = wh s bs k ++ whRow s bs k (9 - (k + 2 * s)) := by
  unfold wh
  rw [List.range_succ, List.flatMap_append]
  simp
theorem dat_head2 {t : Addr} {a b : Nat} {u v : Tok} {n : Nat} {r : List (Addr × Obj)} : DatIn ((t, { cls := .type "tuple", data := .seq #[PySem.Value.int (a : Int) u, PySem.Value.int (b : Int) v] n }) :: r) (.ref t) (d2 (a, b)) :=
  DatIn.tuple (vs := [PySem.Value.int (a : Int) u, PySem.Value.int (b : Int) v]) List.mem_cons_self (.cons (.int _ _) (.cons (.int _ _) .nil))
theorem News.reorder2 {h₀ h : Heap} {L : Addr} {a x1 x2 b c d e y1 y2 y3 : Addr × Obj} {tl : List (Addr × Obj)} (N : News h₀ L h (a :: x1 :: x2 :: b :: c :: d :: e :: y1 :: y2 :: y3 :: tl)) : News h₀ L h (a :: b :: c :: d :: e :: tl) := News.pick [0, 3, 4, 5, 6] 10 N
theorem News.reorder3 {h₀ h : Heap} {L : Addr} {x1 x2 b c d e y1 y2 y3 : Addr × Obj} {tl : List (Addr × Obj)} (N : News h₀ L h (x1 :: x2 :: b :: c :: d :: e :: y1 :: y2 :: y3 :: tl)) : News h₀ L h (b :: c :: d :: e :: tl) := News.pick [2, 3, 4, 5] 9 N
theorem ne_of_lt9 {x1 x2 b c d e y1 y2 y3 : Addr × Obj} {tl : List (Addr × Obj)} {t : Addr} (h : AllLt t (x1 :: x2 :: b :: c :: d :: e :: y1 :: y2 :: y3 :: tl)) : (∀ p ∈ b :: c :: d :: e :: tl, p.1 ≠ t) ∧ ∀ p ∈ tl, @LT.lt Nat _ p.1 t := by
  have h := lt_of_allLt h
  constructor
  · intro p hp
    refine Nat.ne_of_lt (h p ?_)
    simp only [List.mem_cons] at hp ⊢
    rcases hp with h | h | h | h | h <;> simp only [h, true_or, or_true]
  · intro p hp
    refine h p ?_
    simp only [List.mem_cons]
    simp only [hp, or_true]
noncomputable def restBody : List Stmt := outerBody.drop 1
/-- between the turns that fill whole -/
noncomputable def WhJ (base : List (Addr × Obj)) (Away : Addr → Prop) (sz : Nat) (bs : List Bool) (i j : Nat) (ys : List PySem.Value) (nw : List (Addr × Obj)) : Prop :=
  ∃ tw, nw = tw ++ base ∧ (∀ e ∈ tw, Away e.1) ∧ DatAll tw ys ((wh sz bs i ++ whRow sz bs i j).map d2) ∧ ys.length ≤ 9 * i + j ∧ i ≤ 8 ∧ j ≤ 9
theorem WhJ.has {base nw : List (Addr × Obj)} {Away : Addr → Prop} {sz i j : Nat} {bs : List Bool} {ys : List PySem.Value} (h : WhJ base Away sz bs i j ys nw) : ∀ e ∈ base, e ∈ nw := by
  obtain ⟨tw, rfl, _⟩ := h
  exact fun e he => List.mem_append_right _ he
set_option maxRecDepth 100000 in
set_option maxHeartbeats 4000000 in
theorem law_rest1 (w : World) (mean : ExcName → Option PySem.Value) (mg mb : Str → Option PySem.Value) (h₀ : Heap) (L fa lr lf ln lo lu I1 : Addr) (cd : PySem.Value) (yn vu : List PySem.Value) (ns : List (Array UInt8)) (dl : List T3) (nu sz : Nat) (ts : Tok) (oI1 oo oF oR o4 o5 o6 : Obj) (v6 : Option PySem.Value) (tl : List (Addr × Obj)) (Away : Addr → Prop) (m : Str → Option PySem.Value) (s : Shared) (Q : Flow → Shared → Prop)
    (B : Below callerA h₀ [] h₀) (X : (Mine.lawK w.params).In h₀) (T : Top Mine.hd.view_1_2 (looseW Mine.hd.view_1_2 []) mean mg mb h₀)
    (hN : NamesAre yn ns) (hl : ns.length = 8) (hs : 1 ≤ sz ∧ sz ≤ 4)
    (d4 : o4.data = .cell (some (.ref ln))) (d5 : o5.data = .cell (some (.int (sz : Int) ts))) (d6 : o6.data = .cell v6)
    (hu : At m (Str.ofString "due") (.ref lu)) (a6 : ∀ t, (∀ q ∈ (I1, oI1) :: (lo, oo) :: (lu, listOf vu.toArray nu) :: (lf, oF) :: (lr, oR) :: (ln, lstN yn) :: (L + 1 + 1 + 1 + 1 + 1 + 1, o6) :: (L + 1 + 1 + 1 + 1 + 1, o5) :: (L + 1 + 1 + 1 + 1, o4) :: tl, @LT.lt Nat _ q.1 t) → Away t)
    (a5 : ∀ q ∈ tl, Away q.1) (a7 : ∀ t, Away t → t ≠ L + 1 + 1 + 1 + 1 + 1 + 1) (b1 : @Ne Nat I1 (L + 1 + 1 + 1 + 1 + 1 + 1)) (b2 : @Ne Nat lo (L + 1 + 1 + 1 + 1 + 1 + 1)) (b3 : @Ne Nat lu (L + 1 + 1 + 1 + 1 + 1 + 1)) (b4 : @Ne Nat lf (L + 1 + 1 + 1 + 1 + 1 + 1)) (b5 : @Ne Nat lr (L + 1 + 1 + 1 + 1 + 1 + 1)) (b6 : @Ne Nat ln (L + 1 + 1 + 1 + 1 + 1 + 1))
    (F : Fr h₀ L s.heap m) (N : News h₀ L s.heap ((I1, oI1) :: (lo, oo) :: (lu, listOf vu.toArray nu) :: (lf, oF) :: (lr, oR) :: (ln, lstN yn) :: (L + 1 + 1 + 1 + 1 + 1 + 1, o6) :: (L + 1 + 1 + 1 + 1 + 1, o5) :: (L + 1 + 1 + 1 + 1, o4) :: tl))
    (k : ∀ (D : Addr) (ys : List PySem.Value) (tw : List (Addr × Obj)) (o6' : Obj) (h : Heap) (tk : Nat), o6'.data = .cell (some (.ref D)) → DatAll tw ys ((wh sz (bits ns sz) 8).map d2) → (∀ e ∈ tw, Away e.1) → Fr h₀ L h m →
      News h₀ L h ((D, lstN ys) :: (I1, oI1) :: (lo, oo) :: (lu, listOf vu.toArray nu) :: (lf, oF) :: (lr, oR) :: (ln, lstN yn) :: (L + 1 + 1 + 1 + 1 + 1 + 1, o6') :: (L + 1 + 1 + 1 + 1 + 1, o5) :: (L + 1 + 1 + 1 + 1, o4) :: (tw ++ tl)) →
      wpP Clean (model PySem.Challenge.rw_pd0128_01.row.prog w) (callerA.deeper (envOfC (Str.ofString "law") lawScope L fa cd)) (execs (restBody.drop 1) (envOfC (Str.ofString "law") lawScope L fa cd)) Q (fun _ _ => False) { s with heap := h, toks := tk }) :
    wpP Clean (model PySem.Challenge.rw_pd0128_01.row.prog w) (callerA.deeper (envOfC (Str.ofString "law") lawScope L fa cd)) (execs restBody (envOfC (Str.ofString "law") lawScope L fa cd)) Q (fun _ _ => False) s := by
  revert X
  k_fill
  intro X
  unfold restBody outerBody lawBody lawScope lawRec at k ⊢
  dsimp only [List.drop, firstOf, forBody] at k ⊢
  refine execsP ?_
  refine AssignP ?_
  refine eval_LCG clean_kept (by with_unfolding_all rfl) rfl (by decide) (by intro _; rfl) ?_
  refine wpP.of_any ?_
  k_steps
  all_goals (try k_data)
  (with_reducible rename Fr _ _ _ _ => F₁)
  (with_reducible rename News _ _ _ _ => N₁)
  (with_reducible rename IsRange _ _ _ _ _ _ _ _ => hRg)
  refine comp_two clean_kept (a := 0) (b := 8) (c := 1) (n := 8) (a2 := fun i => 0 + (i : Int) * 1 + 2 * (sz : Int)) (b2 := fun _ => 9) (c2 := fun _ => 1) (n2 := fun i => 9 - (i + 2 * sz)) rfl (by decide) rfl (by rfl) (by rfl) (by decide) rfl rfl hRg (by intro _ _; rfl) F₁ N₁
    (fun i ys nw => WhJ ((I1, oI1) :: (lo, oo) :: (lu, listOf vu.toArray nu) :: (lf, oF) :: (lr, oR) :: (ln, lstN yn) :: (L + 1 + 1 + 1 + 1 + 1 + 1, o6) :: (L + 1 + 1 + 1 + 1 + 1, o5) :: (L + 1 + 1 + 1 + 1, o4) :: tl) Away sz (bits ns sz) i 0 ys nw) (fun i j ys nw => WhJ ((I1, oI1) :: (lo, oo) :: (lu, listOf vu.toArray nu) :: (lf, oF) :: (lr, oR) :: (ln, lstN yn) :: (L + 1 + 1 + 1 + 1 + 1 + 1, o6) :: (L + 1 + 1 + 1 + 1 + 1, o5) :: (L + 1 + 1 + 1 + 1, o4) :: tl) Away sz (bits ns sz) i j ys nw) ?hlen ?h0 ?src ?hsm2 ?hn2 (fun _ _ _ _ hz => hz) ?step ?out ?fin
  case hlen =>
    rintro i j ys nw ⟨_, _, _, _, h1, h2, h3⟩
    omega
  case h0 => exact ⟨[], rfl, (by intro e he; cases he), (by simp [wh, whRow]; exact .nil), (by simp), (by omega), (by omega)⟩
  case hsm2 =>
    intro i hi
    exact small_ok (by omega) (by omega) (by omega) trivial
  case hn2 =>
    intro i hi
    unfold Builtin.Range.rangeSize
    rw [if_pos (by omega)]
    split <;> omega
  case src =>
    rintro i t₁ ys nw hi hJ h₂ tk₂ I oI C oC D m₂ off ne hoC hx F₂ N₂
    clear ne
    have N₃ : News h₀ L h₂ ((I, oI) :: (C, oC) :: (D, lstN ys) :: (L + 1 + 1 + 1 + 1 + 1, o5) :: nw) := News.ins [(I, oI), (C, oC), (D, lstN ys)] N₂ (hJ.has _ (by k_mem))
    have FN := And.intro F₂ N₂
    clear F₁ N₁ N₂
    refine wpP.of_any ?_
    k_steps
    all_goals (try k_data)
    exact RngAt.intro (s := { s with heap := h₂, toks := tk₂ }) (by assumption) FN.1 FN.2 (by assumption)
  case step =>
    rintro i j t₁ t₂ ys nw hi hj hJ h₂ tk₂ I₁ o₁ I₂ o₂ C oC D m₂ off2 off1 ne hoC hx hy F₂ N₂
    clear ne
    have N₃ : News h₀ L h₂ ((I₂, o₂) :: (C, oC) :: (D, lstN ys) :: (I₁, o₁) :: (ln, lstN yn) :: (L + 1 + 1 + 1 + 1 + 1, o5) :: (L + 1 + 1 + 1 + 1, o4) :: nw) :=
      News.ins [(I₂, o₂), (C, oC), (D, lstN ys), (I₁, o₁)] (News.ins [(I₂, o₂), (C, oC), (D, lstN ys), (I₁, o₁)] (News.ins [(I₂, o₂), (C, oC), (D, lstN ys), (I₁, o₁)] N₂ (hJ.has _ (by k_mem))) (List.mem_cons_of_mem _ (hJ.has _ (by k_mem)))) (List.mem_cons_of_mem _ (List.mem_cons_of_mem _ (hJ.has _ (by k_mem))))
    have hx' : m₂ (Str.ofString "first") = some (.int ((i : Nat) : Int) t₁) := hx.trans (congrArg (fun z => some (PySem.Value.int z t₁)) (show (0 + (i : Int) * 1) = (i : Int) by omega))
    have hy' : m₂ (Str.ofString "last") = some (.int ((i + 2 * sz + j : Nat) : Int) t₂) := hy.trans (congrArg (fun z => some (PySem.Value.int z t₂)) (show (0 + (i : Int) * 1 + 2 * (sz : Int) + (j : Int) * 1) = ((i + 2 * sz + j : Nat) : Int) by omega))
    clear F₁ N₁ N₂ hx hy
    refine Tests_one ?_
    refine wpP.of_any ?_
    k_steps
    all_goals (try k_data)
    have hw : ((ns.take (((i + 2 * sz + j : Nat) : Int) - (sz : Int)).toNat).drop ((i : Nat) : Int).toNat = (ns.take ((i + 2 * sz + j : Nat) : Int).toNat).drop ((i : Int) + (sz : Int)).toNat) ↔ whIn sz (bits ns sz) i (i + 2 * sz + j) = true := by
      have := part_same (ns := ns) (s := sz) (f := i) (l := i + 2 * sz + j) (by omega) (by omega)
      rw [Int.toNat_natCast, Int.toNat_natCast, show (((i + 2 * sz + j : Nat) : Int) - (sz : Int)).toNat = i + 2 * sz + j - sz by omega, show ((i : Int) + (sz : Int)).toNat = i + sz by omega]
      exact this
    have hJh := hJ.has
    obtain ⟨tw, g1, g2, g3, g4, g5, g6⟩ := hJ
    refine eq_N (by k_asm) (by k_mem) (by k_mem) (by assumption) (by assumption) (by ktr_units) ?_
    by_cases hW : whIn sz (bits ns sz) i (i + 2 * sz + j) = true
    · rw [decide_eq_true (hw.mpr hW)]
      k_steps
      all_goals (try k_data)
      refine wpP.of_any ?_
      k_steps
      all_goals (try k_data)
      (with_reducible rename News _ _ _ _ => N₉)
      (rename _ ∧ _ => lD)
      obtain ⟨n1, n2⟩ := ne_of_lt9 (x1 := (_, o4)) (x2 := (_, o4)) (b := (I₂, o₂)) (c := (C, oC)) (d := (D, lstN ys)) (e := (I₁, o₁)) (y1 := (ln, lstN yn)) (y2 := (L + 1 + 1 + 1 + 1 + 1, o5)) (y3 := (L + 1 + 1 + 1 + 1, o4)) (tl := nw) lD
      refine Pend2.intro (by assumption) (News.reorder2 N₉) n1 ⟨(_, _) :: tw, by rw [g1]; rfl, ?_, ?_, ?_, by omega, by omega⟩
      · intro e he
        rcases List.mem_cons.mp he with rfl | he
        · exact a6 _ fun q hq => n2 q (hJh q hq)
        · exact g2 e he
      · rw [whRow_succ, if_pos hW, ← List.append_assoc, List.map_append]
        exact (g3.mono fun q hq => List.mem_cons_of_mem _ hq).append (DatAll.one dat_head2)
      · rw [List.length_append, List.length_singleton]
        omega
    · rw [decide_eq_false (fun x => hW (hw.mp x))]
      k_steps
      all_goals (try k_data)
      · (with_reducible rename News _ _ _ _ => N₉)
        exact Send2.intro (by assumption) (News.reorder3 N₉)
      · refine ⟨tw, g1, g2, ?_, by omega, by omega, by omega⟩
        rw [whRow_succ, if_neg hW, List.append_nil]
        exact g3
  case out =>
    rintro i ys nw hi ⟨tw, h1, h2, h3, h4, h5, h6⟩
    refine ⟨tw, h1, h2, ?_, by omega, by omega, by omega⟩
    rw [wh_succ]
    simpa [whRow] using h3
  case fin =>
    rintro ys nw ⟨tw, rfl, h2, h3, -, -, -⟩
    refine CFin.eval ?_
    intro D h₂ tk₂ F₂ N₂ off
    have h3 : DatAll tw ys ((wh sz (bits ns sz) 8).map d2) := by simpa [whRow] using h3
    have N₃ : News h₀ L h₂ ((D, lstN ys) :: (I1, oI1) :: (lo, oo) :: (lu, listOf vu.toArray nu) :: (lf, oF) :: (lr, oR) :: (ln, lstN yn) :: (L + 1 + 1 + 1 + 1 + 1 + 1, o6) :: (L + 1 + 1 + 1 + 1 + 1, o5) :: (L + 1 + 1 + 1 + 1, o4) :: (tw ++ tl)) := News.less (fun q hq => by
      simp only [List.mem_cons, List.mem_append] at hq ⊢
      rcases hq with h | h | h | h | h | h | h | h | h | h | h | h <;> simp only [h, true_or, or_true]) N₂
    have hD6 : @Ne Nat D (L + 1 + 1 + 1 + 1 + 1 + 1) := Ne.symm (off (L + 1 + 1 + 1 + 1 + 1 + 1, o6) (List.mem_append_right _ (by simp)))
    have ht6 : ∀ p ∈ tw ++ tl, p.1 ≠ L + 1 + 1 + 1 + 1 + 1 + 1 := fun p hp => by
      rcases List.mem_append.mp hp with hp | hp
      · exact a7 _ (h2 p hp)
      · exact a7 _ (a5 p hp)
    clear F₁ N₁ N₂
    k_steps
    all_goals (try k_data)
    exact k D ys tw _ _ _ (by assumption) h3 h2 (by assumption) (by assumption)
end
theorem rules_L8 : True := by
  k_with_none
  k_with "m:call type:type" => (k_here; (with_reducible show wpAny _ _ (call (Value.type "type") [Value.bytes _ _]) _ _ _); (refine type_bytes ?_))
  k_with "m:call builtin:issubclass" => (k_here; (show wpAny _ _ (call (Value.builtin "issubclass") [Value.type "bytes", Value.ref _]) _ _ _); k_dflt (refine' issub_N (by (k_asm)) (by (k_mem)) ?_))
  k_with "m:mine:news" => first | assumption | (refine cb_drop (by assumption) ?_; intro p hp; repeat (first | exact hp | refine List.mem_cons_of_mem _ ?_))
  k_with "m:mine:size" => first | omega | (simp only [Array.size_append, List.size_toArray, List.length_cons, List.length_nil] at *; omega)
  k_with "m:getMethod bytes" => (k_here; (with_reducible first | refine meth FB.slot_bytes_startswith FB.type_bytes_startswith ?_ | refine meth FB.slot_bytes_endswith FB.type_bytes_endswith ?_ | refine meth slot_rfind type_rfind ?_ | refine meth slot_rstrip type_rstrip ?_ | refine meth slot_split type_split ?_ | refine meth slot_join type_join ?_))
  k_with "m:call builtin:bytes.startswith" => (k_here; (show wpAny _ _ (call (Value.builtin "bytes.startswith") [Value.bytes _ _, Value.bytes _ _]) _ _ _); (refine call_starts ?_))
  k_with "m:call builtin:bytes.endswith" => (k_here; (show wpAny _ _ (call (Value.builtin "bytes.endswith") [Value.bytes _ _, Value.bytes _ _]) _ _ _); (refine call_ends ?_))
  k_with "m:call builtin:bytes.rfind" => (k_here; (show wpAny _ _ (call (Value.builtin "bytes.rfind") [Value.bytes _ _, Value.bytes _ _]) _ _ _); (refine call_rfind ?_))
  k_with "m:call builtin:bytes.rstrip" => (k_here; (show wpAny _ _ (call (Value.builtin "bytes.rstrip") [Value.bytes _ _, Value.bytes _ _]) _ _ _); (refine call_rstrip (by walk_at "mine:size") ?_); intro _ _)
  k_with "m:truthy bytes" => (k_here; (with_reducible show wpAny _ _ (truthy (Value.bytes _ _)) _ _ _); (refine truthy_bytes (by walk_at "mine:size") ?_))
  k_with "m:call builtin:len" => (k_here; (show wpAny _ _ (call (Value.builtin "len") [Value.bytes _ _]) _ _ _); (refine len_bytes (by walk_at "mine:size") ?_))
  k_with "m:subscriptTail" => (k_here; (with_reducible show wpAny _ _ (subscriptTail _ (Expr.Slice _ _ none _) (Value.bytes _ _) (Value.ref _)) _ _ _); (with_reducible rename Fr _ _ _ _ => F'); (with_reducible rename News _ _ _ _ => N'); (refine slice_B (s := ⟨_, _, _, _, _⟩) F' N' (by constructor) (by constructor) (by walk_at "mine:size") ?_); intro _ _ _ F' N' hsz')
  k_with "m:binaryOp Mult bytes int" => (k_here; (with_reducible show wpAny _ _ (binaryOp Operator.Mult (Value.bytes _ _) (Value.int _ _)) _ _ _); (refine mul_one (by omega) (by walk_at "mine:size") ?_); intro _ _)
  k_with "m:binaryOp Add bytes bytes" => (k_here; (with_reducible show wpAny _ _ (binaryOp Operator.Add (Value.bytes _ _) (Value.bytes _ _)) _ _ _); (refine KBy.add_bytes (by walk_at "mine:size") ?_); intro _ _)
  k_with "m:compareOp NotEq bytes bytes" => (k_here; (refine ne_bytes ?_))
  k_with "m:compareOp Eq bytes bytes" => (k_here; (refine eq_bytes ?_))
  k_with "m:exec Try" => (k_here; (refine Try_calm ?_))
  k_with "m:mine:passes_own" => exact fun _ _ h => (show False from h).elim
  k_with "m:inplaceOp Add" => (k_here; (with_reducible show wpAny _ _ (inplaceOp Operator.Add (Value.bytes _ _) (Value.bytes _ _)) _ _ _); (refine iadd_bytes (by walk_at "mine:size") ?_); intro _ _)
  k_with "m:call builtin:bytes.split" => (k_here; (show wpAny _ _ (call (Value.builtin "bytes.split") [Value.bytes _ _, Value.bytes _ _]) _ _ _); k_dflt (refine' call_split1 (by (k_asm)) (by (k_asm)) (by (walk_at "mine:size")) ?_); intro l' h' vs' k' hv' hn' F' N' l1'; (try dsimp only))
  k_with "m:call builtin:len" => (k_here; (show wpAny _ _ (call (Value.builtin "len") [Value.ref _]) _ _ _); k_dflt (refine' len_L (by (k_asm)) (by (k_mem)) (by (omega)) ?_); intro _ _)
  k_with "m:mine:at" => with_reducible (first | exact At.here | assumption | exact At.skip (by decide) (by walk_at "mine:at"))
  k_with "m:eval Name" => (k_here; (with_reducible fail_if_success show wpAny _ _ (eval _ (compEnvC _ _ _ _)) _ _ _); (with_reducible fail_if_success show wpAny _ _ (eval _ (compEnv _ _ _)) _ _ _); (with_reducible fail_if_success show wpAny _ _ (eval _ (envOfC _ _ _ _ _)) _ _ _); (with_reducible rename At _ _ _ => hAt'); k_dflt (refine' ld (by (k_asm)) (by (change At _ _ _; walk_at "mine:at")) ?_))
  k_with "m:loadName" => (k_here; (with_reducible fail_if_success show wpAny _ _ (loadName (envOfC _ _ _ _ _) _) _ _ _); (with_reducible rename At _ _ _ => hAt'); k_dflt (refine' ldn (by (k_asm)) (by (change At _ _ _; walk_at "mine:at")) ?_))
  k_with "m:subscriptTail" => (k_here; (with_reducible show wpAny _ _ (subscriptTail _ _ (Value.ref _) (Value.int (-1) _)) _ _ _); k_dflt (refine' item_last (by (k_asm)) (by (k_mem)) ?_))
  k_with "m:call ref" => (k_here; (with_reducible show wpAny _ _ (call (Value.ref 94) [Value.bytes _ _]) _ _ _); k_dflt (refine' Claim.use (fspath_ok _ _) (by (k_asm)) (by (k_asm)) (by (k_asm)) (by (k_asm)) (by (k_asm)) (by (first | exact rfl | assumption)) (by (ktr_room)) (by (ktr_units)) ?_); intro v h' tk' hv F' N'; subst hv; (try dsimp only); (try k_fold))
  k_with "m:call ref" => (k_here; (with_reducible show wpAny _ _ (call (Value.ref 108) [Value.bytes _ _]) _ _ _); k_dflt (refine' Claim.use (get_sep_ok _ _) (by (k_asm)) (by (k_asm)) (by (k_asm)) (by (k_asm)) (by (k_asm)) (by (first | exact rfl | assumption)) (by (ktr_room)) (by (ktr_units)) ?_); intro v h' tk' hv F' N'; (obtain ⟨t9, hv⟩ := hv); subst hv; (try dsimp only); (try k_fold))
  k_with "m:call ref" => (k_here; (with_reducible show wpAny _ _ (call (Value.ref 122) [Value.bytes _ _]) _ _ _); k_dflt (refine' Claim.use (dirname_ok _ _ (by (walk_at "mine:size"))) (by (k_asm)) (by (k_asm)) (by (k_asm)) (by (k_asm)) (by (k_asm)) (by (first | exact rfl | assumption)) (by (ktr_room)) (by (ktr_units)) ?_); intro v h' tk' hv F' N'; (obtain ⟨t9, hv⟩ := hv); subst hv; (try dsimp only); (try k_fold))
  k_with "m:call ref" => (k_here; (with_reducible show wpAny _ _ (call (Value.ref 127) [Value.ref _]) _ _ _); k_dflt (refine' common_use (by (k_asm)) (by (k_asm)) (by (k_asm)) (by (k_asm)) (by (k_asm)) (by (first | exact rfl | assumption)) (by (walk_at "mine:size")) (by (walk_at "mine:size")) (by (assumption)) (by (assumption)) (by (ktr_room)) (by (ktr_units)) ?_); intro v h' tk' hv F' N'; (obtain ⟨t9, hv⟩ := hv); subst hv; (try dsimp only); (try k_fold))
  k_with "m:eval Name" => (k_here; (with_reducible show wpAny _ _ (eval _ (envOfC _ _ _ _ _)) _ _ _); (with_reducible rename At _ _ _ => hAt'); k_dflt (refine' nameX_L (by (k_asm)) (by (change At _ _ _; walk_at "mine:at")) ?_ (by (rfl)) (by (rfl))))
  k_with "m:mine:k_all" => ((with_reducible rename Lts _ _ => hL8); exact Lts.ne hL8 (by omega))
  k_with "m:mine:fn" => (refine' fn_at (by (k_asm)) (by (k_asm)) (by (k_is)))
  k_with "m:mine:argument" => (refine callWith_refP (splConsP ?_); refine wpP.of_any ?_; k_steps; (all_goals (try k_data)); refine splNilP ?_; refine ⟨by walk_at "mine:fn", ?_⟩)
  k_with "m:mine:mirror" => (k_dflt (refine' ClaimP.use (cn := Str.ofString "law") (mirror_ok _ _ (by (assumption))) (by (k_asm)) (by (k_asm)) (by (k_asm)) (by (k_asm)) (by (k_asm)) (by (first | exact rfl | assumption)) (by (ktr_room)) (by (ktr_units)) ?_); (all_goals (try k_data)); intro v h' tk' hv F' N'; (obtain ⟨t9, hv⟩ := hv); subst hv; dsimp only)
  k_with "m:mine:mem" => first | k_mem | (with_reducible assumption) | (refine List.mem_cons_of_mem _ ?_; walk_at "mine:mem")
  k_with "m:subscriptTail Name Slice ref ref" => (k_here; (with_reducible show wpAny _ _ (subscriptTail _ (PySem.Expr.Slice none (some _) none _) (PySem.Value.ref _) (PySem.Value.ref _)) _ _ _); k_dflt (refine' slice_upN (s := ⟨_, _, _, _, _⟩) (by (k_asm)) (by (k_asm)) (by (walk_at "mine:mem")) (by (assumption)) (by (constructor)) (by (omega)) ?_); intro D' h' us' hU' F' N' l1'; (try dsimp only); (try k_fold))
  k_with "m:subscriptTail Name Slice ref ref" => (k_here; (with_reducible show wpAny _ _ (subscriptTail _ (PySem.Expr.Slice (some _) none none _) (PySem.Value.ref _) (PySem.Value.ref _)) _ _ _); k_dflt (refine' slice_fromN (s := ⟨_, _, _, _, _⟩) (by (k_asm)) (by (k_asm)) (by (walk_at "mine:mem")) (by (assumption)) (by (constructor)) (by (omega)) ?_); intro D' h' us' hU' F' N' l1'; (try dsimp only); (try k_fold))
  k_with "m:subscriptTail Name Slice ref ref" => (k_here; (with_reducible show wpAny _ _ (subscriptTail _ (PySem.Expr.Slice (some _) (some _) none _) (PySem.Value.ref _) (PySem.Value.ref _)) _ _ _); k_dflt (refine' slice_bothN (s := ⟨_, _, _, _, _⟩) (by (k_asm)) (by (k_asm)) (by (walk_at "mine:mem")) (by (assumption)) (by (constructor)) (by (constructor)) (by (omega)) (by (omega)) (by (omega)) ?_); intro D' h' us' hU' F' N' l1'; (try dsimp only); (try k_fold))
  k_with "m:call builtin:bytes.join" => (k_here; (show wpAny _ _ (call (PySem.Value.builtin "bytes.join") [PySem.Value.bytes _ _, PySem.Value.ref _]) _ _ _); k_dflt (refine' join_N (by (k_asm)) (by (walk_at "mine:mem")) (by (with_reducible assumption)) ?_); intro t' _; (try dsimp only))
  k_with "m:eval Name" => (k_here; (with_reducible show wpAny _ _ (eval (PySem.Expr.Name (Str.ofString "size") _) (envOfC _ _ _ _ _)) _ _ _); k_dflt (refine' nameX_C (x := Str.ofString "size") (by (k_asm)) (by (rfl)) (by (k_mem)) (by (k_asm)) ?_ (by (rfl)) (by (rfl)); k_whole))
  k_with "m:eval Name" => (k_here; (with_reducible show wpAny _ _ (eval (PySem.Expr.Name (Str.ofString "names") _) (envOfC _ _ _ _ _)) _ _ _); k_dflt (refine' nameX_C (x := Str.ofString "names") (by (k_asm)) (by (rfl)) (by (k_mem)) (by (k_asm)) ?_ (by (rfl)) (by (rfl)); k_whole))
  k_with "m:eval Name" => (k_here; (with_reducible show wpAny _ _ (eval (PySem.Expr.Name (Str.ofString "whole") _) (envOfC _ _ _ _ _)) _ _ _); k_dflt (refine' nameX_C (x := Str.ofString "whole") (by (k_asm)) (by (rfl)) (by (k_mem)) (by (k_asm)) ?_ (by (rfl)) (by (rfl)); k_whole))
  k_with "m:mine:k_ne" => (refine neN ?_; (try dsimp only); first | assumption | (refine Ne.symm ?_; assumption))
  k_with "m:mine:k_all" => with_reducible assumption
  k_with "m:eval ListComp" => refine Stop.go ?_
  k_with "m:compareOp NotIn" => refine Stop.go ?_
  k_with "m:binaryOp Add ref ref" => refine Stop.go ?_
  trivial
section
theorem datIn_d2 {tw : List (Addr × Obj)} {v : PySem.Value} {q : T2} (h : DatIn tw v (d2 q)) : ∃ t u1 u2 n, v = .ref t ∧ (t, tupObj [PySem.Value.int (q.1 : Int) u1, PySem.Value.int (q.2 : Int) u2] n) ∈ tw := by
  unfold d2 at h
  cases h with
  | tuple hm hA =>
    cases hA with
    | cons h1 h2 =>
      cases h1
      cases h2 with
      | cons h3 h4 =>
        cases h3
        cases h4
        exact ⟨_, _, _, _, rfl, hm⟩
theorem whole_get {tw : List (Addr × Obj)} {vs : List PySem.Value} {wl : List T2} (h : DatAll tw vs (wl.map d2)) {i : Nat} {v : PySem.Value} (hv : vs[i]? = some v) : ∃ q, wl[i]? = some q ∧ DatIn tw v (d2 q) := by
  have hl := h.length
  rw [List.length_map] at hl
  have hi : i < vs.length := (List.getElem?_eq_some_iff.mp hv).1
  obtain ⟨v', h1, h2⟩ := h.get (k := i) (by rw [List.length_map]; omega)
  rw [h1] at hv
  cases hv
  refine ⟨wl[i]'(by omega), List.getElem?_eq_getElem _, ?_⟩
  rwa [List.getElem_map] at h2
theorem d2_ok (l : List T2) : ∀ d ∈ l.map d2, kqdOk 8 d = true := by
  intro d hd
  obtain ⟨x, _, rfl⟩ := List.mem_map.mp hd
  rfl
theorem d2_less {f l : Nat} {w : List T2} : Dat.tuple [.int ((f : Int) - 1), .int (l : Int)] ∈ w.map d2 ↔ f ≠ 0 ∧ (f - 1, l) ∈ w := by
  constructor
  · intro h
    obtain ⟨⟨a, b⟩, hq, e⟩ := List.mem_map.mp h
    simp only [d2, Dat.tuple.injEq, List.cons.injEq, Dat.int.injEq, and_true] at e
    obtain ⟨e1, e2⟩ := e
    have h0 : f ≠ 0 := by omega
    refine ⟨h0, ?_⟩
    have : f - 1 = a := by omega
    have : l = b := by omega
    subst_vars
    exact hq
  · rintro ⟨h0, h⟩
    have e : Dat.tuple [.int ((f : Int) - 1), .int (l : Int)] = d2 (f - 1, l) := by
      unfold d2
      have : ((f : Int) - 1) = ((f - 1 : Nat) : Int) := by omega
      rw [this]
    rw [e]
    exact d2_mem.mpr h
theorem d2_more {f l : Nat} {w : List T2} : Dat.tuple [.int (f : Int), .int ((l : Int) + 1)] ∈ w.map d2 ↔ (f, l + 1) ∈ w := d2_mem (a := (f, l + 1))
/-- between the turns that fill due -/
noncomputable def DuJ (base : List (Addr × Obj)) (Away : Addr → Prop) (sz : Nat) (wl : List T2) (i : Nat) (ys : List PySem.Value) (nw : List (Addr × Obj)) : Prop :=
  ∃ tu, nw = tu ++ base ∧ (∀ e ∈ tu, Away e.1) ∧ DatAll tu ys ((((wl.take i).filter (duOk wl)).map fun q => ((sz, q.1, q.2) : T3)).map d3) ∧ ys.length ≤ i
theorem DuJ.has {base nw : List (Addr × Obj)} {Away : Addr → Prop} {sz i : Nat} {wl : List T2} {ys : List PySem.Value} (h : DuJ base Away sz wl i ys nw) : ∀ e ∈ base, e ∈ nw := by
  obtain ⟨tw, rfl, _⟩ := h
  exact fun e he => List.mem_append_right _ he
theorem du_take {wl : List T2} {i : Nat} {q : T2} (hq : wl[i]? = some q) : (wl.take (i + 1)).filter (duOk wl) = (wl.take i).filter (duOk wl) ++ if duOk wl q = true then [q] else [] := by
  rw [List.take_add_one, hq, List.filter_append, Option.toList_some, List.filter_cons, List.filter_nil]
theorem DuJ.skip {base nw : List (Addr × Obj)} {Away : Addr → Prop} {sz i : Nat} {wl : List T2} {ys : List PySem.Value} {q : T2} (h : DuJ base Away sz wl i ys nw) (hq : wl[i]? = some q) (ho : duOk wl q = false) : DuJ base Away sz wl (i + 1) ys nw := by
  obtain ⟨tu, h1, h2, h3, h4⟩ := h
  refine ⟨tu, h1, h2, ?_, by omega⟩
  rw [du_take hq, ho, if_neg (by decide), List.append_nil]
  exact h3
theorem DuJ.next {base nw : List (Addr × Obj)} {Away : Addr → Prop} {sz i : Nat} {wl : List T2} {ys : List PySem.Value} {q : T2} {t : Addr} {u v x : Tok} {n : Nat} (h : DuJ base Away sz wl i ys nw) (hq : wl[i]? = some q) (ho : duOk wl q = true) (ha : Away t) :
    DuJ base Away sz wl (i + 1) (ys ++ [.ref t]) ((t, { cls := .type "tuple", data := .seq #[PySem.Value.int (sz : Int) u, PySem.Value.int (q.1 : Int) v, PySem.Value.int (q.2 : Int) x] n }) :: nw) := by
  obtain ⟨tu, h1, h2, h3, h4⟩ := h
  refine ⟨(t, _) :: tu, by rw [h1]; rfl, ?_, ?_, by rw [List.length_append, List.length_singleton]; omega⟩
  · intro e he
    rcases List.mem_cons.mp he with rfl | he
    · exact ha
    · exact h2 e he
  · rw [du_take hq, ho, if_pos rfl, List.map_append, List.map_append]
    exact (h3.mono fun q hq => List.mem_cons_of_mem _ hq).append (DatAll.one dat_head)
theorem News.reorder4 {h₀ h : Heap} {L : Addr} {a x1 x2 b c d y1 y2 y3 : Addr × Obj} {tl : List (Addr × Obj)} (N : News h₀ L h (a :: x1 :: x2 :: b :: c :: d :: y1 :: y2 :: y3 :: tl)) : News h₀ L h (b :: c :: d :: a :: tl) := News.less (fun q hq => by
  simp only [List.mem_cons] at hq ⊢
  rcases hq with h | h | h | h | h <;> simp only [h, true_or, or_true]) N
theorem wh_len {sz : Nat} {bs : List Bool} : (wh sz bs 8).length ≤ 100 := by
  have row : ∀ f, (whRow sz bs f (9 - (f + 2 * sz))).length ≤ 9 := fun f => by
    unfold whRow
    refine Nat.le_trans (List.length_filter_le _ _) ?_
    rw [List.length_map, List.length_range]; omega
  have : ∀ k, (wh sz bs k).length ≤ 9 * k := fun k => by
    induction k with
    | zero => simp [wh]
    | succ k ih =>
      unfold wh at ih ⊢
      rw [List.range_succ, List.flatMap_append, List.length_append]
      have := row k
      simp only [List.flatMap_singleton]
      omega
  have := this 8
  omega
set_option maxRecDepth 100000 in
set_option maxHeartbeats 4000000 in
theorem law_rest2 (w : World) (mean : ExcName → Option PySem.Value) (mg mb : Str → Option PySem.Value) (h₀ : Heap) (L fa lr lf ln lo lu I1 D : Addr) (cd : PySem.Value) (yw vu : List PySem.Value) (ns : List (Array UInt8)) (dl : List T3) (nu sz : Nat) (ts : Tok) (oI1 oo oF oR oN o4 o5 o6 : Obj) (tw tl : List (Addr × Obj)) (Away : Addr → Prop) (m : Str → Option PySem.Value) (s : Shared) (Q : Flow → Shared → Prop)
    (B : Below callerA h₀ [] h₀) (X : (Mine.lawK w.params).In h₀) (T : Top Mine.hd.view_1_2 (looseW Mine.hd.view_1_2 []) mean mg mb h₀)
    (hW : DatAll tw yw ((wh sz (bits ns sz) 8).map d2)) (hD : DatAll tl vu (dl.map d3)) (hdl : dl.length ≤ 10000)
    (d5 : o5.data = .cell (some (.int (sz : Int) ts))) (d6 : o6.data = .cell (some (.ref D)))
    (hr : At m (Str.ofString "rests") (.ref lr)) (hf : At m (Str.ofString "fronts") (.ref lf)) (ho : At m (Str.ofString "found") (.ref lo)) (hu : At m (Str.ofString "due") (.ref lu))
    (a6 : ∀ t, (∀ q ∈ (I1, oI1) :: (lo, oo) :: (lu, listOf vu.toArray nu) :: (lf, oF) :: (lr, oR) :: (ln, oN) :: (L + 1 + 1 + 1 + 1 + 1 + 1, o6) :: (L + 1 + 1 + 1 + 1 + 1, o5) :: (L + 1 + 1 + 1 + 1, o4) :: (tw ++ tl), @LT.lt Nat _ q.1 t) → Away t)
    (a5 : ∀ q ∈ tl, Away q.1) (a8 : ∀ q ∈ tw, Away q.1)
    (F : Fr h₀ L s.heap m) (N : News h₀ L s.heap ((D, lstN yw) :: (I1, oI1) :: (lo, oo) :: (lu, listOf vu.toArray nu) :: (lf, oF) :: (lr, oR) :: (ln, oN) :: (L + 1 + 1 + 1 + 1 + 1 + 1, o6) :: (L + 1 + 1 + 1 + 1 + 1, o5) :: (L + 1 + 1 + 1 + 1, o4) :: (tw ++ tl)))
    (k : ∀ (lu' : Addr) (vu' : List PySem.Value) (nu' : Nat) (tl' : List (Addr × Obj)) (m' : Str → Option PySem.Value) (h : Heap) (tk : Nat), Away lu' → At m' (Str.ofString "rests") (.ref lr) → At m' (Str.ofString "fronts") (.ref lf) → At m' (Str.ofString "found") (.ref lo) → At m' (Str.ofString "due") (.ref lu') →
      DatAll tl' vu' ((dl ++ du sz (bits ns sz)).map d3) → (∀ q ∈ tl, q ∈ tl') → (∀ q ∈ tl', Away q.1) → Fr h₀ L h m' →
      News h₀ L h ((I1, oI1) :: (lo, oo) :: (lu', listOf vu'.toArray nu') :: (lf, oF) :: (lr, oR) :: (ln, oN) :: (L + 1 + 1 + 1 + 1 + 1 + 1, o6) :: (L + 1 + 1 + 1 + 1 + 1, o5) :: (L + 1 + 1 + 1 + 1, o4) :: tl') →
      Q .next { s with heap := h, toks := tk }) :
    wpP Clean (model PySem.Challenge.rw_pd0128_01.row.prog w) (callerA.deeper (envOfC (Str.ofString "law") lawScope L fa cd)) (execs (restBody.drop 1) (envOfC (Str.ofString "law") lawScope L fa cd)) Q (fun _ _ => False) s := by
  revert X
  k_fill
  intro X
  unfold restBody outerBody lawBody lawScope lawRec
  dsimp only [List.drop, firstOf, forBody]
  refine execsP ?_
  refine wpP.of_any ?_
  k_steps
  all_goals (try k_data)
  refine wpP.any (eval_LCG every_kept (by with_unfolding_all rfl) rfl (by decide) (by intro _; rfl) ?_)
  refine wpP.of_any ?_
  k_steps
  all_goals (try k_data)
  (with_reducible rename Fr _ _ _ _ => F₁)
  (with_reducible rename News _ _ _ _ => N₁)
  have hwl := wh_len (sz := sz) (bs := bits ns sz)
  generalize hwe : wh sz (bits ns sz) 8 = wl at hW hwl
  have hyl : yw.length = wl.length := by have := hW.length; rwa [List.length_map] at this
  refine comp_pair every_kept rfl (by decide) rfl (by rfl) (by rfl) (by decide) F₁ N₁ (a := D) (vs := yw) (k := yw.length) List.mem_cons_self (by omega)
    (fun i ys nw => DuJ ((D, lstN yw) :: (I1, oI1) :: (lo, oo) :: (lu, listOf vu.toArray nu) :: (lf, oF) :: (lr, oR) :: (ln, oN) :: (L + 1 + 1 + 1 + 1 + 1 + 1, o6) :: (L + 1 + 1 + 1 + 1 + 1, o5) :: (L + 1 + 1 + 1 + 1, o4) :: (tw ++ tl)) Away sz wl i ys nw) ?hkeep ?hlen ?h0 ?turn ?fin
  case hkeep => exact fun i ys nw h => h.has _ List.mem_cons_self
  case hlen =>
    rintro i ys nw ⟨_, _, _, _, h⟩
    exact h
  case h0 => exact ⟨[], rfl, (by intro e he; cases he), (by simp; exact .nil), Nat.le_refl _⟩
  case turn =>
    rintro i v ys nw hv hJ
    obtain ⟨q, hq, hI⟩ := whole_get hW hv
    obtain ⟨t, u1, u2, n, rfl, hm⟩ := datIn_d2 hI
    have hJh := hJ.has
    have hTw : ∀ p ∈ tw, p ∈ nw := fun p hp => hJh p (by simp only [List.mem_cons, List.mem_append, hp, true_or, or_true])
    refine ⟨t, _, _, n, rfl, hTw _ hm, ?_⟩
    intro h₁ tk₁ I oI C oC E₁ m₂ off ne hoC hx hy F₂ N₂
    clear ne
    have N₃ : News h₀ L h₁ ((I, oI) :: (C, oC) :: (E₁, lstN ys) :: (D, lstN yw) :: (L + 1 + 1 + 1 + 1 + 1, o5) :: (L + 1 + 1 + 1 + 1 + 1 + 1, o6) :: nw) := News.less (fun q hq => by
      simp only [List.mem_cons] at hq ⊢
      rcases hq with h | h | h | h | h | h | h
      · exact .inl h
      · exact .inr (.inl h)
      · exact .inr (.inr (.inl h))
      · rw [h]; exact .inr (.inr (.inr (hJh _ (by simp))))
      · rw [h]; exact .inr (.inr (.inr (hJh _ (by simp))))
      · rw [h]; exact .inr (.inr (.inr (hJh _ (by simp))))
      · exact .inr (.inr (.inr h))) N₂
    clear F₁ N₁ N₂
    refine Tests_one ?_
    refine wpP.of_any ?_
    k_steps
    all_goals (try k_data)
    (with_reducible rename News _ _ _ _ => N₅)
    refine notIn_D (d := Dat.tuple [.int ((q.1 : Int) - 1), .int (q.2 : Int)]) N₅ (by k_mem) hW (by intro p hp; have hp := hTw p hp; repeat (first | exact hp | refine List.mem_cons_of_mem _ ?_)) (DatIn.tuple (vs := [PySem.Value.int _ _, PySem.Value.int _ _]) List.mem_cons_self (.cons (.int _ _) (.cons (.int _ _) .nil))) (fun q hq => hq) (d2_ok _) rfl (by ke_room) ?_
    intro bb hbb
    rw [d2_less] at hbb
    by_cases c1 : q.1 ≠ 0 ∧ (q.1 - 1, q.2) ∈ wl
    · rw [hbb.mpr c1]
      k_steps
      all_goals (try k_data)
      refine CEnd.intro nw (by assumption) N₅ ?_ off (hJ.skip hq ?_)
      · intro p hp
        simp only [List.mem_cons] at hp ⊢
        rcases hp with h | h | h | h <;> simp only [h, true_or, or_true]
      · unfold duOk
        rw [decide_eq_true c1]
        rfl
    · rw [Bool.eq_false_iff.mpr fun x => c1 (hbb.mp x)]
      k_steps
      all_goals (try k_data)
      (with_reducible rename News _ _ _ _ => N₆)
      refine notIn_D (d := Dat.tuple [.int (q.1 : Int), .int ((q.2 : Int) + 1)]) N₆ (by k_mem) hW (by intro p hp; have hp := hTw p hp; repeat (first | exact hp | refine List.mem_cons_of_mem _ ?_)) (DatIn.tuple (vs := [PySem.Value.int _ _, PySem.Value.int _ _]) List.mem_cons_self (.cons (.int _ _) (.cons (.int _ _) .nil))) (fun q hq => hq) (d2_ok _) rfl (by ke_room) ?_
      intro bc hbc
      rw [d2_more] at hbc
      by_cases c2 : (q.1, q.2 + 1) ∈ wl
      · rw [hbc.mpr c2]
        k_steps
        all_goals (try k_data)
        refine CEnd.intro nw (by assumption) N₆ ?_ off (hJ.skip hq ?_)
        · intro p hp
          simp only [List.mem_cons] at hp ⊢
          rcases hp with h | h | h | h <;> simp only [h, true_or, or_true]
        · unfold duOk
          rw [decide_eq_true c2]
          simp
      · rw [Bool.eq_false_iff.mpr fun x => c2 (hbc.mp x)]
        k_steps
        all_goals (try k_data)
        refine wpP.of_any ?_
        k_steps
        all_goals (try k_data)
        (with_reducible rename News _ _ _ _ => N₇)
        (rename _ ∧ _ => lD)
        have lN := lt_of_allLt lD.2.2.2.2.2.2.2.2
        refine CEnd.intro _ (by assumption) (News.reorder4 N₇) (fun p hp => hp) ?_ (hJ.next hq ?_ ?_)
        · intro p hp
          rcases List.mem_cons.mp hp with rfl | hp
          · exact ⟨Ne.symm (Nat.ne_of_lt lD.2.2.1), Ne.symm (Nat.ne_of_lt lD.2.2.2.1), Ne.symm (Nat.ne_of_lt lD.2.2.2.2.1)⟩
          · exact off p hp
        · unfold duOk
          rw [decide_eq_false c1, decide_eq_false c2]
          rfl
        · exact a6 _ fun q hq => lN q (hJh q (List.mem_cons_of_mem _ hq))
  case fin =>
    rintro ys nw ⟨tu, rfl, h2, h3, -⟩
    refine CFin.eval ?_
    intro E₁ h₂ tk₂ F₂ N₂ off
    rw [hyl, List.take_length] at h3
    clear F₁ N₁
    have z1 := hD.length
    have z2 := h3.length
    rw [List.length_map] at z1
    rw [List.length_map, List.length_map] at z2
    have z3 := List.length_filter_le (duOk wl) wl
    refine kmk_add_lit F₂ N₂ (isL N₂ (n := nu) (vs := vu) (by simp only [List.mem_cons, List.mem_append, true_or, or_true])) (isL N₂ List.mem_cons_self) rfl ?_ (by rw [sizeLine_eq]; simp only; omega)
    intro lu' h₃ F₃ N₃ l1
    have hdu : du sz (bits ns sz) = ((wl.filter (duOk wl)).map fun q => ((sz, q.1, q.2) : T3)) := by unfold du; rw [hwe]
    have hAw : Away lu' := a6 _ fun q hq => l1 q (List.mem_cons_of_mem _ (List.mem_append_right _ (List.mem_cons_of_mem _ hq)))
    k_steps
    all_goals (try k_data)
    dsimp only
    refine wpP.of_any ?_
    k_steps
    all_goals (try k_data)
    (with_reducible rename News _ _ _ _ => N₅)
    refine k lu' (vu ++ ys) 0 (tu ++ (tw ++ tl)) _ _ _ hAw ?g1 ?g2 ?g3 ?g4 ?g5 ?g6 ?g7 (by assumption) (News.less ?g8 N₅)
    case g5 =>
      rw [List.map_append, hdu]
      exact (hD.mono fun q hq => List.mem_append_right _ (List.mem_append_right _ hq)).append (h3.mono fun q hq => List.mem_append_left _ hq)
    case g6 => exact fun q hq => List.mem_append_right _ (List.mem_append_right _ hq)
    case g7 =>
      intro q hq
      rcases List.mem_append.mp hq with hq | hq
      · exact h2 q hq
      · rcases List.mem_append.mp hq with hq | hq
        · exact a8 q hq
        · exact a5 q hq
    case g8 =>
      intro q hq
      simp only [List.mem_cons, List.mem_append] at hq ⊢
      rcases hq with h | h | h | h | h | h | h | h | h | h | h | h <;> simp only [h, true_or, or_true]
    all_goals walk_at "mine:at"
end
theorem rules_L9 : True := by
  k_with_none
  k_with "m:call type:type" => (k_here; (with_reducible show wpAny _ _ (call (Value.type "type") [Value.bytes _ _]) _ _ _); (refine type_bytes ?_))
  k_with "m:call builtin:issubclass" => (k_here; (show wpAny _ _ (call (Value.builtin "issubclass") [Value.type "bytes", Value.ref _]) _ _ _); k_dflt (refine' issub_N (by (k_asm)) (by (k_mem)) ?_))
  k_with "m:mine:news" => first | assumption | (refine cb_drop (by assumption) ?_; intro p hp; repeat (first | exact hp | refine List.mem_cons_of_mem _ ?_))
  k_with "m:mine:size" => first | omega | (simp only [Array.size_append, List.size_toArray, List.length_cons, List.length_nil] at *; omega)
  k_with "m:getMethod bytes" => (k_here; (with_reducible first | refine meth FB.slot_bytes_startswith FB.type_bytes_startswith ?_ | refine meth FB.slot_bytes_endswith FB.type_bytes_endswith ?_ | refine meth slot_rfind type_rfind ?_ | refine meth slot_rstrip type_rstrip ?_ | refine meth slot_split type_split ?_ | refine meth slot_join type_join ?_))
  k_with "m:call builtin:bytes.startswith" => (k_here; (show wpAny _ _ (call (Value.builtin "bytes.startswith") [Value.bytes _ _, Value.bytes _ _]) _ _ _); (refine call_starts ?_))
  k_with "m:call builtin:bytes.endswith" => (k_here; (show wpAny _ _ (call (Value.builtin "bytes.endswith") [Value.bytes _ _, Value.bytes _ _]) _ _ _); (refine call_ends ?_))
  k_with "m:call builtin:bytes.rfind" => (k_here; (show wpAny _ _ (call (Value.builtin "bytes.rfind") [Value.bytes _ _, Value.bytes _ _]) _ _ _); (refine call_rfind ?_))
  k_with "m:call builtin:bytes.rstrip" => (k_here; (show wpAny _ _ (call (Value.builtin "bytes.rstrip") [Value.bytes _ _, Value.bytes _ _]) _ _ _); (refine call_rstrip (by walk_at "mine:size") ?_); intro _ _)
  k_with "m:truthy bytes" => (k_here; (with_reducible show wpAny _ _ (truthy (Value.bytes _ _)) _ _ _); (refine truthy_bytes (by walk_at "mine:size") ?_))
  k_with "m:call builtin:len" => (k_here; (show wpAny _ _ (call (Value.builtin "len") [Value.bytes _ _]) _ _ _); (refine len_bytes (by walk_at "mine:size") ?_))
  k_with "m:subscriptTail" => (k_here; (with_reducible show wpAny _ _ (subscriptTail _ (Expr.Slice _ _ none _) (Value.bytes _ _) (Value.ref _)) _ _ _); (with_reducible rename Fr _ _ _ _ => F'); (with_reducible rename News _ _ _ _ => N'); (refine slice_B (s := ⟨_, _, _, _, _⟩) F' N' (by constructor) (by constructor) (by walk_at "mine:size") ?_); intro _ _ _ F' N' hsz')
  k_with "m:binaryOp Mult bytes int" => (k_here; (with_reducible show wpAny _ _ (binaryOp Operator.Mult (Value.bytes _ _) (Value.int _ _)) _ _ _); (refine mul_one (by omega) (by walk_at "mine:size") ?_); intro _ _)
  k_with "m:binaryOp Add bytes bytes" => (k_here; (with_reducible show wpAny _ _ (binaryOp Operator.Add (Value.bytes _ _) (Value.bytes _ _)) _ _ _); (refine KBy.add_bytes (by walk_at "mine:size") ?_); intro _ _)
  k_with "m:compareOp NotEq bytes bytes" => (k_here; (refine ne_bytes ?_))
  k_with "m:compareOp Eq bytes bytes" => (k_here; (refine eq_bytes ?_))
  k_with "m:exec Try" => (k_here; (refine Try_calm ?_))
  k_with "m:mine:passes_own" => exact fun _ _ h => (show False from h).elim
  k_with "m:inplaceOp Add" => (k_here; (with_reducible show wpAny _ _ (inplaceOp Operator.Add (Value.bytes _ _) (Value.bytes _ _)) _ _ _); (refine iadd_bytes (by walk_at "mine:size") ?_); intro _ _)
  k_with "m:call builtin:bytes.split" => (k_here; (show wpAny _ _ (call (Value.builtin "bytes.split") [Value.bytes _ _, Value.bytes _ _]) _ _ _); k_dflt (refine' call_split1 (by (k_asm)) (by (k_asm)) (by (walk_at "mine:size")) ?_); intro l' h' vs' k' hv' hn' F' N' l1'; (try dsimp only))
  k_with "m:call builtin:len" => (k_here; (show wpAny _ _ (call (Value.builtin "len") [Value.ref _]) _ _ _); k_dflt (refine' len_L (by (k_asm)) (by (k_mem)) (by (omega)) ?_); intro _ _)
  k_with "m:mine:at" => with_reducible (first | exact At.here | assumption | exact At.skip (by decide) (by walk_at "mine:at"))
  k_with "m:eval Name" => (k_here; (with_reducible fail_if_success show wpAny _ _ (eval _ (compEnvC _ _ _ _)) _ _ _); (with_reducible fail_if_success show wpAny _ _ (eval _ (compEnv _ _ _)) _ _ _); (with_reducible fail_if_success show wpAny _ _ (eval _ (envOfC _ _ _ _ _)) _ _ _); (with_reducible rename At _ _ _ => hAt'); k_dflt (refine' ld (by (k_asm)) (by (change At _ _ _; walk_at "mine:at")) ?_))
  k_with "m:loadName" => (k_here; (with_reducible fail_if_success show wpAny _ _ (loadName (envOfC _ _ _ _ _) _) _ _ _); (with_reducible rename At _ _ _ => hAt'); k_dflt (refine' ldn (by (k_asm)) (by (change At _ _ _; walk_at "mine:at")) ?_))
  k_with "m:subscriptTail" => (k_here; (with_reducible show wpAny _ _ (subscriptTail _ _ (Value.ref _) (Value.int (-1) _)) _ _ _); k_dflt (refine' item_last (by (k_asm)) (by (k_mem)) ?_))
  k_with "m:call ref" => (k_here; (with_reducible show wpAny _ _ (call (Value.ref 94) [Value.bytes _ _]) _ _ _); k_dflt (refine' Claim.use (fspath_ok _ _) (by (k_asm)) (by (k_asm)) (by (k_asm)) (by (k_asm)) (by (k_asm)) (by (first | exact rfl | assumption)) (by (ktr_room)) (by (ktr_units)) ?_); intro v h' tk' hv F' N'; subst hv; (try dsimp only); (try k_fold))
  k_with "m:call ref" => (k_here; (with_reducible show wpAny _ _ (call (Value.ref 108) [Value.bytes _ _]) _ _ _); k_dflt (refine' Claim.use (get_sep_ok _ _) (by (k_asm)) (by (k_asm)) (by (k_asm)) (by (k_asm)) (by (k_asm)) (by (first | exact rfl | assumption)) (by (ktr_room)) (by (ktr_units)) ?_); intro v h' tk' hv F' N'; (obtain ⟨t9, hv⟩ := hv); subst hv; (try dsimp only); (try k_fold))
  k_with "m:call ref" => (k_here; (with_reducible show wpAny _ _ (call (Value.ref 122) [Value.bytes _ _]) _ _ _); k_dflt (refine' Claim.use (dirname_ok _ _ (by (walk_at "mine:size"))) (by (k_asm)) (by (k_asm)) (by (k_asm)) (by (k_asm)) (by (k_asm)) (by (first | exact rfl | assumption)) (by (ktr_room)) (by (ktr_units)) ?_); intro v h' tk' hv F' N'; (obtain ⟨t9, hv⟩ := hv); subst hv; (try dsimp only); (try k_fold))
  k_with "m:call ref" => (k_here; (with_reducible show wpAny _ _ (call (Value.ref 127) [Value.ref _]) _ _ _); k_dflt (refine' common_use (by (k_asm)) (by (k_asm)) (by (k_asm)) (by (k_asm)) (by (k_asm)) (by (first | exact rfl | assumption)) (by (walk_at "mine:size")) (by (walk_at "mine:size")) (by (assumption)) (by (assumption)) (by (ktr_room)) (by (ktr_units)) ?_); intro v h' tk' hv F' N'; (obtain ⟨t9, hv⟩ := hv); subst hv; (try dsimp only); (try k_fold))
  k_with "m:eval Name" => (k_here; (with_reducible show wpAny _ _ (eval _ (envOfC _ _ _ _ _)) _ _ _); (with_reducible rename At _ _ _ => hAt'); k_dflt (refine' nameX_L (by (k_asm)) (by (change At _ _ _; walk_at "mine:at")) ?_ (by (rfl)) (by (rfl))))
  k_with "m:mine:k_all" => ((with_reducible rename Lts _ _ => hL8); exact Lts.ne hL8 (by omega))
  k_with "m:mine:fn" => (refine' fn_at (by (k_asm)) (by (k_asm)) (by (k_is)))
  k_with "m:mine:argument" => (refine callWith_refP (splConsP ?_); refine wpP.of_any ?_; k_steps; (all_goals (try k_data)); refine splNilP ?_; refine ⟨by walk_at "mine:fn", ?_⟩)
  k_with "m:mine:mirror" => (k_dflt (refine' ClaimP.use (cn := Str.ofString "law") (mirror_ok _ _ (by (assumption))) (by (k_asm)) (by (k_asm)) (by (k_asm)) (by (k_asm)) (by (k_asm)) (by (first | exact rfl | assumption)) (by (ktr_room)) (by (ktr_units)) ?_); (all_goals (try k_data)); intro v h' tk' hv F' N'; (obtain ⟨t9, hv⟩ := hv); subst hv; dsimp only)
  k_with "m:mine:mem" => first | k_mem | (with_reducible assumption) | (refine List.mem_cons_of_mem _ ?_; walk_at "mine:mem")
  k_with "m:subscriptTail Name Slice ref ref" => (k_here; (with_reducible show wpAny _ _ (subscriptTail _ (PySem.Expr.Slice none (some _) none _) (PySem.Value.ref _) (PySem.Value.ref _)) _ _ _); k_dflt (refine' slice_upN (s := ⟨_, _, _, _, _⟩) (by (k_asm)) (by (k_asm)) (by (walk_at "mine:mem")) (by (assumption)) (by (constructor)) (by (omega)) ?_); intro D' h' us' hU' F' N' l1'; (try dsimp only); (try k_fold))
  k_with "m:subscriptTail Name Slice ref ref" => (k_here; (with_reducible show wpAny _ _ (subscriptTail _ (PySem.Expr.Slice (some _) none none _) (PySem.Value.ref _) (PySem.Value.ref _)) _ _ _); k_dflt (refine' slice_fromN (s := ⟨_, _, _, _, _⟩) (by (k_asm)) (by (k_asm)) (by (walk_at "mine:mem")) (by (assumption)) (by (constructor)) (by (omega)) ?_); intro D' h' us' hU' F' N' l1'; (try dsimp only); (try k_fold))
  k_with "m:subscriptTail Name Slice ref ref" => (k_here; (with_reducible show wpAny _ _ (subscriptTail _ (PySem.Expr.Slice (some _) (some _) none _) (PySem.Value.ref _) (PySem.Value.ref _)) _ _ _); k_dflt (refine' slice_bothN (s := ⟨_, _, _, _, _⟩) (by (k_asm)) (by (k_asm)) (by (walk_at "mine:mem")) (by (assumption)) (by (constructor)) (by (constructor)) (by (omega)) (by (omega)) (by (omega)) ?_); intro D' h' us' hU' F' N' l1'; (try dsimp only); (try k_fold))
  k_with "m:call builtin:bytes.join" => (k_here; (show wpAny _ _ (call (PySem.Value.builtin "bytes.join") [PySem.Value.bytes _ _, PySem.Value.ref _]) _ _ _); k_dflt (refine' join_N (by (k_asm)) (by (walk_at "mine:mem")) (by (with_reducible assumption)) ?_); intro t' _; (try dsimp only))
  k_with "m:eval Name" => (k_here; (with_reducible show wpAny _ _ (eval (PySem.Expr.Name (Str.ofString "size") _) (envOfC _ _ _ _ _)) _ _ _); k_dflt (refine' nameX_C (x := Str.ofString "size") (by (k_asm)) (by (rfl)) (by (k_mem)) (by (k_asm)) ?_ (by (rfl)) (by (rfl)); k_whole))
  k_with "m:eval Name" => (k_here; (with_reducible show wpAny _ _ (eval (PySem.Expr.Name (Str.ofString "names") _) (envOfC _ _ _ _ _)) _ _ _); k_dflt (refine' nameX_C (x := Str.ofString "names") (by (k_asm)) (by (rfl)) (by (k_mem)) (by (k_asm)) ?_ (by (rfl)) (by (rfl)); k_whole))
  k_with "m:eval Name" => (k_here; (with_reducible show wpAny _ _ (eval (PySem.Expr.Name (Str.ofString "whole") _) (envOfC _ _ _ _ _)) _ _ _); k_dflt (refine' nameX_C (x := Str.ofString "whole") (by (k_asm)) (by (rfl)) (by (k_mem)) (by (k_asm)) ?_ (by (rfl)) (by (rfl)); k_whole))
  k_with "m:mine:k_ne" => (refine neN ?_; (try dsimp only); first | assumption | (refine Ne.symm ?_; assumption))
  k_with "m:mine:k_all" => with_reducible assumption
  k_with "m:eval ListComp" => refine Stop.go ?_
  k_with "m:exec For Name Call cons nil" => refine Stop.go ?_
  k_with "m:compareOp Eq ref ref" => refine Stop.go ?_
  trivial
section
theorem obj_at {o : Obj} {d : Data} (_ : o.data = d) : ∃ o', o' = o := ⟨o, rfl⟩
/-- no list or cell that the loops change -/
noncomputable def Aw (L lo : Addr) (t : Addr) : Prop := @Ne Nat t lo ∧ @Ne Nat t (L + 1 + 1 + 1 + 1 + 1) ∧ @Ne Nat t (L + 1 + 1 + 1 + 1 + 1 + 1)
theorem fLoop_succ (s : Nat) (bs : List Bool) (acc : List T3) (k : Nat) : fLoop s bs acc (k + 1) = fStep s bs (fLoop s bs acc k) (k * s) := by
  unfold fLoop
  rw [List.range_succ, List.foldl_append]
  rfl
theorem fLoop_len (s : Nat) (bs : List Bool) (acc : List T3) : ∀ k, (fLoop s bs acc k).length ≤ acc.length + k
  | 0 => Nat.le_refl _
  | k + 1 => by
    have := fLoop_len s bs acc k
    rw [fLoop_succ]
    unfold fStep
    split
    · rw [List.length_append, List.length_singleton]; omega
    · omega
theorem found_len (ns : List (Array UInt8)) : ∀ k, (foundN ns k).length ≤ 7 * k
  | 0 => by simp [foundN]
  | k + 1 => by
    have := found_len ns k
    have h2 := fLoop_len (k + 1) (bits ns (k + 1)) (foundN ns k) (placesN (k + 1))
    have h3 : placesN (k + 1) ≤ 7 := by unfold placesN; exact Nat.div_le_self _ _
    rw [foundN]
    omega
/-- between the turns of the loop over the sizes -/
noncomputable def OutJ (L lo lf lr ln : Addr) (oF oR oN o4 : Obj) (ns : List (Array UInt8)) (i : Nat) (m : Str → Option PySem.Value) (nw : List (Addr × Obj)) : Prop :=
  ∃ (lu : Addr) (vu vf : List PySem.Value) (nu nf : Nat) (o5 o6 : Obj) (v5 v6 : Option PySem.Value) (tl : List (Addr × Obj)),
    nw = (lo, listOf vf.toArray nf) :: (lu, listOf vu.toArray nu) :: (lf, oF) :: (lr, oR) :: (ln, oN) :: (L + 1 + 1 + 1 + 1 + 1 + 1, o6) :: (L + 1 + 1 + 1 + 1 + 1, o5) :: (L + 1 + 1 + 1 + 1, o4) :: tl ∧
    o5.data = .cell v5 ∧ o6.data = .cell v6 ∧ At m (Str.ofString "rests") (.ref lr) ∧ At m (Str.ofString "fronts") (.ref lf) ∧ At m (Str.ofString "found") (.ref lo) ∧ At m (Str.ofString "due") (.ref lu) ∧
    DatAll tl vf ((foundN ns i).map d3) ∧ DatAll tl vu ((dueN ns i).map d3) ∧ (∀ q ∈ tl, Aw L lo q.1) ∧ Aw L lo lu
/-- between the turns of the loop over the places -/
noncomputable def InJ (L lo lu lf lr ln I1 : Addr) (oF oR oN o4 o5 o6 oI1 ou : Obj) (sz : Nat) (bs : List Bool) (fl : List T3) (tl : List (Addr × Obj)) (j : Nat) (m : Str → Option PySem.Value) (nw : List (Addr × Obj)) : Prop :=
  ∃ (vf : List PySem.Value) (nf : Nat) (tl' : List (Addr × Obj)),
    nw = (I1, oI1) :: (lo, listOf vf.toArray nf) :: (lu, ou) :: (lf, oF) :: (lr, oR) :: (ln, oN) :: (L + 1 + 1 + 1 + 1 + 1 + 1, o6) :: (L + 1 + 1 + 1 + 1 + 1, o5) :: (L + 1 + 1 + 1 + 1, o4) :: tl' ∧
    At m (Str.ofString "rests") (.ref lr) ∧ At m (Str.ofString "fronts") (.ref lf) ∧ At m (Str.ofString "found") (.ref lo) ∧ At m (Str.ofString "due") (.ref lu) ∧
    DatAll tl' vf ((fLoop sz bs fl j).map d3) ∧ (∀ q ∈ tl, q ∈ tl') ∧ (∀ q ∈ tl', Aw L lo q.1 ∧ @Ne Nat q.1 I1)
theorem bound1 {a b p i j : Nat} (h1 : a ≤ b + j) (h2 : b ≤ 7 * i) (h3 : j < p) (h4 : p ≤ 7) (h5 : i < 4) : a ≤ 1000 := by omega
theorem bound2 {b i : Nat} (h2 : b ≤ 7 * i) (h5 : i < 4) : b ≤ 10000 := by omega
theorem bound3 {i : Nat} (h : i < 4) : 1 ≤ i + 1 ∧ i + 1 ≤ 4 := by omega
set_option maxRecDepth 100000 in
set_option maxHeartbeats 4000000 in
theorem law_loops (w : World) (mean : ExcName → Option PySem.Value) (mg mb : Str → Option PySem.Value) (h₀ : Heap) (L fa lr lf ln lo lu : Addr) (cd : PySem.Value) (yr yf yn : List PySem.Value) (ns : List (Array UInt8)) (o4 o5 o6 : Obj) (v5 v6 : Option PySem.Value) (m : Str → Option PySem.Value) (s : Shared) (Q : Flow → Shared → Prop)
    (B : Below callerA h₀ [] h₀) (X : (Mine.lawK w.params).In h₀) (T : Top Mine.hd.view_1_2 (looseW Mine.hd.view_1_2 []) mean mg mb h₀)
    (hN : NamesAre yn ns) (hl : ns.length = 8) (hF : RowsAre yf (frontF ns)) (hR : RowsAre yr fun k => ns.drop k)
    (d4 : o4.data = .cell (some (.ref ln))) (d5 : o5.data = .cell v5) (d6 : o6.data = .cell v6)
    (hr : At m (Str.ofString "rests") (.ref lr)) (hf : At m (Str.ofString "fronts") (.ref lf)) (ho : At m (Str.ofString "found") (.ref lo)) (hu : At m (Str.ofString "due") (.ref lu))
    (c1 : Aw L lo lf) (c2 : Aw L lo lr) (c3 : Aw L lo ln) (c4 : Aw L lo lu) (c5 : @Ne Nat (L + 1 + 1 + 1 + 1) lo) (c6 : @Ne Nat (L + 1 + 1 + 1 + 1 + 1) lo) (c7 : @Ne Nat (L + 1 + 1 + 1 + 1 + 1 + 1) lo)
    (F : Fr h₀ L s.heap m) (N : News h₀ L s.heap [(lo, lstN []), (lu, lstN []), (lf, lstN yf), (lr, lstN yr), (ln, lstN yn), (L + 1 + 1 + 1 + 1 + 1 + 1, o6), (L + 1 + 1 + 1 + 1 + 1, o5), (L + 1 + 1 + 1 + 1, o4)])
    (k : ∀ (m' : Str → Option PySem.Value) (h : Heap) (tk : Nat), Fr h₀ L h m' → Q (.ret (.bool true)) { s with heap := h, toks := tk }) :
    wpP Clean (model PySem.Challenge.rw_pd0128_01.row.prog w) (callerA.deeper (envOfC (Str.ofString "law") lawScope L fa cd)) (execs (lawBody.drop 11) (envOfC (Str.ofString "law") lawScope L fa cd)) Q (fun _ _ => False) s := by
  obtain ⟨c11, c12, c13⟩ := c1
  obtain ⟨c21, c22, c23⟩ := c2
  obtain ⟨c31, c32, c33⟩ := c3
  revert X
  k_fill
  intro X
  unfold lawBody lawScope lawRec
  dsimp only [List.drop]
  have FN := And.intro F N
  refine execsP ?_
  refine For_rng (a := 1) (b := 5) (c := 1) (n := 4) clean_kept rfl (by decide) (by decide) F N ?hx (OutJ L lo lf lr ln (lstN yf) (lstN yr) (lstN yn) o4 ns) ?h0 ?turn ?fin
  case hx =>
    k_steps
    exact RngAt.intro (by assumption) FN.1 FN.2 (by assumption)
  case h0 =>
    exact ⟨lu, [], [], 0, 0, o5, o6, v5, v6, [], rfl, d5, d6, hr, hf, ho, hu, .nil, .nil, (by intro q hq; cases hq), c4⟩
  case turn =>
    rintro i t m₁ nw₁ h₁ tk₁ I1 oI1 hi hJ off F₁ N₁
    obtain ⟨lu, vu, vf, nu, nf, o5, o6, v5, v6, tl, rfl, e5, e6, g1, g2, g3, g4, g5, g6, g7, g8⟩ := hJ
    have hsz : 1 ≤ i + 1 ∧ i + 1 ≤ 4 := bound3 hi
    have e : (1 + (i : Int) * 1) = ((i + 1 : Nat) : Int) := by rw [Int.mul_one, Int.add_comm]; rfl
    rw [e]
    clear e
    obtain ⟨g81, g82, g83⟩ := g8
    have bIo : @Ne Nat I1 lo := Ne.symm (off (lo, listOf vf.toArray nf) (by k_mem))
    have bI5 : @Ne Nat I1 (L + 1 + 1 + 1 + 1 + 1) := Ne.symm (off (L + 1 + 1 + 1 + 1 + 1, o5) (by k_mem))
    have bI6 : @Ne Nat I1 (L + 1 + 1 + 1 + 1 + 1 + 1) := Ne.symm (off (L + 1 + 1 + 1 + 1 + 1 + 1, o6) (by k_mem))
    have bIu : @Ne Nat lu I1 := off (lu, listOf vu.toArray nu) (by k_mem)
    have t5 : ∀ q ∈ tl, q.1 ≠ L + 1 + 1 + 1 + 1 + 1 := fun q hq => (g7 q hq).2.1
    have tI : ∀ q ∈ tl, q.1 ≠ I1 := fun q hq => off q (by simp only [List.mem_cons, hq, or_true])
    clear FN F N
    refine wpAny_assign_Name ?_
    k_steps
    all_goals (try k_data)
    (with_reducible rename Fr _ _ _ _ => F₂)
    (with_reducible rename News _ _ _ _ => N₂)
    (with_reducible rename _ = Data.cell (some (PySem.Value.int _ _)) => d5n)
    obtain ⟨o5n, e5n⟩ := obj_at d5n
    subst e5n
    have FN := And.intro F₂ N₂
    obtain ⟨r1, r2⟩ := range_ok hsz
    refine execsP ?_
    refine For_rng (a := 0) (b := 8 - ((i + 1 : Nat) : Int)) (c := ((i + 1 : Nat) : Int)) (n := placesN (i + 1)) clean_kept rfl r1 r2 F₂ N₂ ?hx2 (InJ L lo lu lf lr ln I1 (lstN yf) (lstN yr) (lstN yn) o4 o5n o6 oI1 (listOf vu.toArray nu) (i + 1) (bits ns (i + 1)) (foundN ns i) tl) ?h02 ?turn2 ?fin2
    case hx2 =>
      k_steps
      exact RngAt.intro (by assumption) FN.1 FN.2 (by assumption)
    case h02 => exact ⟨vf, nf, tl, rfl, by assumption, by assumption, by assumption, by assumption, by assumption, fun q hq => hq, fun q hq => ⟨g7 q hq, tI q hq⟩⟩
    case turn2 =>
      rintro j t₂ m₃ nw₃ h₃ tk₃ I2 oI2 hj hJ off₃ F₃ N₃
      obtain ⟨vf, nf, tl', rfl, k1, k2, k3, k4, k5, k6, k7⟩ := hJ
      have hp := place_ok hsz hj
      have e : (0 + (j : Int) * ((i + 1 : Nat) : Int)) = ((j * (i + 1) : Nat) : Int) := by rw [Int.zero_add, Int.natCast_mul]
      rw [e]
      clear e
      have bJo : @Ne Nat I2 lo := Ne.symm (off₃ (lo, listOf vf.toArray nf) (by k_mem))
      have tJ : ∀ q ∈ tl', q.1 ≠ I2 := fun q hq => off₃ q (by simp only [List.mem_cons, hq, or_true])
      clear FN F₂ N₂
      refine wpAny_assign_Name ?_
      k_steps
      all_goals (try k_data)
      (with_reducible rename Fr _ _ _ _ => F₄)
      (with_reducible rename News _ _ _ _ => N₄)
      have hfl := fLoop_len (i + 1) (bits ns (i + 1)) (foundN ns i) j
      have hfn := found_len ns i
      have hjn : placesN (i + 1) ≤ 7 := by unfold placesN; exact Nat.div_le_self _ _
      refine law_turn w mean mg mb h₀ L fa lr lf ln lo lu I1 I2 cd yr yf yn vf ns (fLoop (i + 1) (bits ns (i + 1)) (foundN ns i) j) nf (j * (i + 1)) (i + 1) t₂ _ oI1 oI2 (listOf vu.toArray nu) o4 o5n o6 tl' (fun t => (Aw L lo t ∧ @Ne Nat t I1) ∧ @Ne Nat t I2) _ _ _ B X T hN hl hF hR hsz hp d4 d5n ?q1 ?q2 ?q3 ?q4 ?q5 k5 (bound1 hfl hfn hj hjn hi) (fun q hq => (k7 q hq).1.1) ?a2 bIo bJo (fun q hq => ⟨k7 q hq, tJ q hq⟩) ?a6 F₄ N₄ ?kk
      case a2 =>
        intro q hq
        simp only [List.mem_cons, List.not_mem_nil, or_false] at hq
        rcases hq with rfl | rfl | rfl | rfl | rfl | rfl | rfl
        · exact g81
        · exact c11
        · exact c21
        · exact c31
        · exact c7
        · exact c6
        · exact c5
      case a6 =>
        intro t ht
        exact ⟨⟨⟨Ne.symm (Nat.ne_of_lt (ht (lo, listOf vf.toArray nf) (by k_mem))), Ne.symm (Nat.ne_of_lt (ht (L + 1 + 1 + 1 + 1 + 1, o5n) (by k_mem))), Ne.symm (Nat.ne_of_lt (ht (L + 1 + 1 + 1 + 1 + 1 + 1, o6) (by k_mem)))⟩,
          Ne.symm (Nat.ne_of_lt (ht (I1, oI1) (by k_mem)))⟩, Ne.symm (Nat.ne_of_lt (ht (I2, oI2) (by k_mem)))⟩
      case kk =>
        intro vf' nf' tl'' m' h tk x1 x2 x3 x4 x5 x6 x7 F₅ N₅
        refine UnrEnd.intro F₅ N₅ _ (fun p hp => hp) ?_ ⟨vf', nf', tl'', rfl, x1, x2, x3, x4, by rw [fLoop_succ]; exact x5, fun q hq => x6 q (k6 q hq), fun q hq => (x7 q hq).2.1⟩
        intro p hp
        simp only [List.mem_cons] at hp
        rcases hp with rfl | rfl | rfl | rfl | rfl | rfl | rfl | rfl | rfl | hp
        · exact off₃ (I1, oI1) (by k_mem)
        · exact off₃ (lo, listOf vf.toArray nf) (by k_mem)
        · exact off₃ _ (by k_mem)
        · exact off₃ _ (by k_mem)
        · exact off₃ _ (by k_mem)
        · exact off₃ _ (by k_mem)
        · exact off₃ _ (by k_mem)
        · exact off₃ _ (by k_mem)
        · exact off₃ _ (by k_mem)
        · exact (x7 p hp).2.2
      all_goals walk_at "mine:at"
    case fin2 =>
      rintro h₃ tk₃ m₃ nw₃ F₃ N₃ hJ
      obtain ⟨vf', nf', tl', rfl, k1, k2, k3, k4, k5, k6, k7⟩ := hJ
      have hdl := found_len ns i
      rw [found_due hl i (Nat.le_of_lt hi)] at hdl
      clear FN F₂ N₂
      refine law_rest1 w mean mg mb h₀ L fa lr lf ln lo lu I1 cd yn vu ns (dueN ns i) nu (i + 1) _ oI1 (listOf vf'.toArray nf') (lstN yf) (lstN yr) o4 o5n o6 v6 tl' (fun t => Aw L lo t ∧ @Ne Nat t I1) m₃ _ _ B X T hN hl hsz d4 d5n e6 k4 ?a6 k7 (fun t ht => ht.1.2.2) bI6 (Ne.symm c7) g83 c13 c23 c33 F₃ N₃ ?kk
      case a6 =>
        intro t ht
        exact ⟨⟨Ne.symm (Nat.ne_of_lt (ht (lo, listOf vf'.toArray nf') (by k_mem))), Ne.symm (Nat.ne_of_lt (ht (L + 1 + 1 + 1 + 1 + 1, o5n) (by k_mem))), Ne.symm (Nat.ne_of_lt (ht (L + 1 + 1 + 1 + 1 + 1 + 1, o6) (by k_mem)))⟩,
          Ne.symm (Nat.ne_of_lt (ht (I1, oI1) (by k_mem)))⟩
      case kk =>
        intro D yw tw o6' h tk d6' hW hA F₅ N₅
        refine law_rest2 w mean mg mb h₀ L fa lr lf ln lo lu I1 D cd yw vu ns (dueN ns i) nu (i + 1) _ oI1 (listOf vf'.toArray nf') (lstN yf) (lstN yr) (lstN yn) o4 o5n o6' tw tl' (fun t => Aw L lo t ∧ @Ne Nat t I1) m₃ _ _ B X T hW (g6.mono k6) (bound2 hdl hi) d5n d6' k1 k2 k3 k4 ?b6 k7 hA F₅ N₅ ?kk2
        case b6 =>
          intro t ht
          exact ⟨⟨Ne.symm (Nat.ne_of_lt (ht (lo, listOf vf'.toArray nf') (by k_mem))), Ne.symm (Nat.ne_of_lt (ht (L + 1 + 1 + 1 + 1 + 1, o5n) (by k_mem))), Ne.symm (Nat.ne_of_lt (ht (L + 1 + 1 + 1 + 1 + 1 + 1, o6') (by k_mem)))⟩,
            Ne.symm (Nat.ne_of_lt (ht (I1, oI1) (by k_mem)))⟩
        case kk2 =>
          intro lu' vu' nu' tl'' m' h tk hAw x1 x2 x3 x4 x5 x6 x7 F₆ N₆
          refine UnrEnd.intro F₆ N₆ _ (fun p hp => hp) ?_ ⟨lu', vu', vf', nu', nf', o5n, o6', _, _, tl'', rfl, d5n, d6', x1, x2, x3, x4, k5.mono x6, x5, fun q hq => (x7 q hq).1, hAw.1⟩
          intro p hp
          simp only [List.mem_cons] at hp
          rcases hp with rfl | rfl | rfl | rfl | rfl | rfl | rfl | rfl | hp
          · exact off (lo, listOf vf.toArray nf) (by k_mem)
          · exact hAw.2
          · exact off _ (by k_mem)
          · exact off _ (by k_mem)
          · exact off _ (by k_mem)
          · exact off (L + 1 + 1 + 1 + 1 + 1 + 1, o6) (by k_mem)
          · exact off (L + 1 + 1 + 1 + 1 + 1, o5) (by k_mem)
          · exact off _ (by k_mem)
          · exact (x7 p hp).2
  case fin =>
    rintro h₃ tk₃ m₃ nw₃ F₃ N₃ hJ
    obtain ⟨lu, vu, vf, nu, nf, o5, o6, v5, v6, tl, rfl, e5, e6, g1, g2, g3, g4, g5, g6, g7, g8⟩ := hJ
    clear FN F N
    refine execsP ?_
    refine wpP.of_any ?_
    k_steps
    all_goals (try k_data)
    refine eq_D N₃ List.mem_cons_self g5 ?s1 (List.mem_cons_of_mem _ List.mem_cons_self) g6 ?s2 (d3_ok _) (d3_ok _) (by ke_room) ?_
    case s1 =>
      intro q hq
      simp only [List.mem_cons, hq, or_true]
    case s2 =>
      intro q hq
      simp only [List.mem_cons, hq, or_true]
    intro bb hbb
    have hb : bb = true := hbb.mpr (by rw [found_due hl 4 (Nat.le_refl 4)])
    subst hb
    k_steps
    all_goals (try k_data)
    exact k m₃ _ _ F₃
end
theorem rules_L10 : True := by
  k_with_none
  k_with "m:call type:type" => (k_here; (with_reducible show wpAny _ _ (call (Value.type "type") [Value.bytes _ _]) _ _ _); (refine type_bytes ?_))
  k_with "m:call builtin:issubclass" => (k_here; (show wpAny _ _ (call (Value.builtin "issubclass") [Value.type "bytes", Value.ref _]) _ _ _); k_dflt (refine' issub_N (by (k_asm)) (by (k_mem)) ?_))
  k_with "m:mine:news" => first | assumption | (refine cb_drop (by assumption) ?_; intro p hp; repeat (first | exact hp | refine List.mem_cons_of_mem _ ?_))
  k_with "m:mine:size" => first | omega | (simp only [Array.size_append, List.size_toArray, List.length_cons, List.length_nil] at *; omega)
  k_with "m:getMethod bytes" => (k_here; (with_reducible first | refine meth FB.slot_bytes_startswith FB.type_bytes_startswith ?_ | refine meth FB.slot_bytes_endswith FB.type_bytes_endswith ?_ | refine meth slot_rfind type_rfind ?_ | refine meth slot_rstrip type_rstrip ?_ | refine meth slot_split type_split ?_ | refine meth slot_join type_join ?_))
  k_with "m:call builtin:bytes.startswith" => (k_here; (show wpAny _ _ (call (Value.builtin "bytes.startswith") [Value.bytes _ _, Value.bytes _ _]) _ _ _); (refine call_starts ?_))
  k_with "m:call builtin:bytes.endswith" => (k_here; (show wpAny _ _ (call (Value.builtin "bytes.endswith") [Value.bytes _ _, Value.bytes _ _]) _ _ _); (refine call_ends ?_))
  k_with "m:call builtin:bytes.rfind" => (k_here; (show wpAny _ _ (call (Value.builtin "bytes.rfind") [Value.bytes _ _, Value.bytes _ _]) _ _ _); (refine call_rfind ?_))
  k_with "m:call builtin:bytes.rstrip" => (k_here; (show wpAny _ _ (call (Value.builtin "bytes.rstrip") [Value.bytes _ _, Value.bytes _ _]) _ _ _); (refine call_rstrip (by walk_at "mine:size") ?_); intro _ _)
  k_with "m:truthy bytes" => (k_here; (with_reducible show wpAny _ _ (truthy (Value.bytes _ _)) _ _ _); (refine truthy_bytes (by walk_at "mine:size") ?_))
  k_with "m:call builtin:len" => (k_here; (show wpAny _ _ (call (Value.builtin "len") [Value.bytes _ _]) _ _ _); (refine len_bytes (by walk_at "mine:size") ?_))
  k_with "m:subscriptTail" => (k_here; (with_reducible show wpAny _ _ (subscriptTail _ (Expr.Slice _ _ none _) (Value.bytes _ _) (Value.ref _)) _ _ _); (with_reducible rename Fr _ _ _ _ => F'); (with_reducible rename News _ _ _ _ => N'); (refine slice_B (s := ⟨_, _, _, _, _⟩) F' N' (by constructor) (by constructor) (by walk_at "mine:size") ?_); intro _ _ _ F' N' hsz')
  k_with "m:binaryOp Mult bytes int" => (k_here; (with_reducible show wpAny _ _ (binaryOp Operator.Mult (Value.bytes _ _) (Value.int _ _)) _ _ _); (refine mul_one (by omega) (by walk_at "mine:size") ?_); intro _ _)
  k_with "m:binaryOp Add bytes bytes" => (k_here; (with_reducible show wpAny _ _ (binaryOp Operator.Add (Value.bytes _ _) (Value.bytes _ _)) _ _ _); (refine KBy.add_bytes (by walk_at "mine:size") ?_); intro _ _)
  k_with "m:compareOp NotEq bytes bytes" => (k_here; (refine ne_bytes ?_))
  k_with "m:compareOp Eq bytes bytes" => (k_here; (refine eq_bytes ?_))
  k_with "m:exec Try" => (k_here; (refine Try_calm ?_))
  k_with "m:mine:passes_own" => exact fun _ _ h => (show False from h).elim
  k_with "m:inplaceOp Add" => (k_here; (with_reducible show wpAny _ _ (inplaceOp Operator.Add (Value.bytes _ _) (Value.bytes _ _)) _ _ _); (refine iadd_bytes (by walk_at "mine:size") ?_); intro _ _)
  k_with "m:call builtin:bytes.split" => (k_here; (show wpAny _ _ (call (Value.builtin "bytes.split") [Value.bytes _ _, Value.bytes _ _]) _ _ _); k_dflt (refine' call_split1 (by (k_asm)) (by (k_asm)) (by (walk_at "mine:size")) ?_); intro l' h' vs' k' hv' hn' F' N' l1'; (try dsimp only))
  k_with "m:call builtin:len" => (k_here; (show wpAny _ _ (call (Value.builtin "len") [Value.ref _]) _ _ _); k_dflt (refine' len_L (by (k_asm)) (by (k_mem)) (by (omega)) ?_); intro _ _)
  k_with "m:mine:at" => with_reducible (first | exact At.here | assumption | exact At.skip (by decide) (by walk_at "mine:at"))
  k_with "m:eval Name" => (k_here; (with_reducible fail_if_success show wpAny _ _ (eval _ (compEnvC _ _ _ _)) _ _ _); (with_reducible fail_if_success show wpAny _ _ (eval _ (compEnv _ _ _)) _ _ _); (with_reducible fail_if_success show wpAny _ _ (eval _ (envOfC _ _ _ _ _)) _ _ _); (with_reducible rename At _ _ _ => hAt'); k_dflt (refine' ld (by (k_asm)) (by (change At _ _ _; walk_at "mine:at")) ?_))
  k_with "m:loadName" => (k_here; (with_reducible fail_if_success show wpAny _ _ (loadName (envOfC _ _ _ _ _) _) _ _ _); (with_reducible rename At _ _ _ => hAt'); k_dflt (refine' ldn (by (k_asm)) (by (change At _ _ _; walk_at "mine:at")) ?_))
  k_with "m:subscriptTail" => (k_here; (with_reducible show wpAny _ _ (subscriptTail _ _ (Value.ref _) (Value.int (-1) _)) _ _ _); k_dflt (refine' item_last (by (k_asm)) (by (k_mem)) ?_))
  trivial
theorem kind_name {b : Array UInt8} (h : Kind b) : Name b := by
  rcases h with rfl | rfl | rfl | rfl
  · exact ⟨⟨by decide, by decide⟩, by decide⟩
  · exact ⟨⟨by decide, by decide⟩, by decide⟩
  · exact ⟨⟨by decide, by decide⟩, by decide⟩
  · exact ⟨⟨by decide, by decide⟩, by decide⟩
theorem pathOf_J {ns : List (Array UInt8)} (h : ∀ b ∈ ns, Good b) : pathOf ns = J ns := by
  have := path_J ns [] (by intro x hx; cases hx) h
  rwa [J_nil, List.nil_append] at this
theorem climb_rows {ns : List (Array UInt8)} (h : ∀ b ∈ ns, Good b) (hl : ns.length = 8) : climbL (J ns) 8 = (List.range 9).map fun k => J (ns.take (8 - k)) := by
  rw [climb_J h, hl]
theorem rest_rows {ns : List (Array UInt8)} (h : ∀ b ∈ ns, Good b) (hl : ns.length = 8) : (climbL (J ns).reverse 8).map Array.reverse = (List.range 9).map fun k => J (ns.drop k) := by
  have hr : ∀ b ∈ ns.reverse.map Array.reverse, Good b := fun b hb => by
    obtain ⟨c, hc, rfl⟩ := List.mem_map.mp hb
    exact (h c (List.mem_reverse.mp hc)).rev
  rw [J_rev, climb_J hr, List.map_map]
  refine List.map_congr_left fun i hi => ?_
  have hi : i < 9 := List.mem_range.mp hi
  show (J _).reverse = _
  rw [J_rev, List.length_map, List.length_reverse, hl, ← List.map_take, ← List.map_reverse, List.map_map, List.take_reverse, List.reverse_reverse, hl]
  have e : (Array.reverse ∘ Array.reverse : Array UInt8 → Array UInt8) = id := funext fun x => by simp
  rw [e, List.map_id]
  congr 2
  omega
set_option maxRecDepth 100000 in
set_option maxHeartbeats 4000000 in
theorem law_all (w : World) (mean : ExcName → Option PySem.Value) (mg mb : Str → Option PySem.Value) (h₀ : Heap) (L fa lx : Addr) (cd : PySem.Value) (xs : List Int) (vs : List PySem.Value) (o1 o2 o3 o4 o5 o6 : Obj) (s : Shared) (Q : Flow → Shared → Prop)
    (B : Below callerA h₀ [] h₀) (X : (Mine.lawK w.params).In h₀) (T : Top Mine.hd.view_1_2 (looseW Mine.hd.view_1_2 []) mean mg mb h₀) (hlx : h₀.IsList lx vs.toArray) (hI : IntsAre vs xs) (hlen : xs.length ≤ 63)
    (d1 : o1.data = .cell (some (.ref lx))) (d2 : o2.data = .cell none) (d3 : o3.data = .cell none) (d4 : o4.data = .cell none) (d5 : o5.data = .cell none) (d6 : o6.data = .cell none)
    (F : Fr h₀ L s.heap (fun _ => none)) (N : News h₀ L s.heap [(L + 1 + 1 + 1 + 1 + 1 + 1, o6), (L + 1 + 1 + 1 + 1 + 1, o5), (L + 1 + 1 + 1 + 1, o4), (L + 1 + 1 + 1, o3), (L + 1 + 1, o2), (L + 1, o1)])
    (k : ∀ (m' : Str → Option PySem.Value) (h : Heap) (tk : Nat), Fr h₀ L h m' → Q (.ret (.bool true)) { s with heap := h, toks := tk }) :
    wpP Clean (model PySem.Challenge.rw_pd0128_01.row.prog w) (callerA.deeper (envOfC (Str.ofString "law") lawScope L fa cd)) (execs lawBody (envOfC (Str.ofString "law") lawScope L fa cd)) Q (fun _ _ => False) s := by
  with_reducible refine law_s1 w mean mg mb h₀ L fa lx cd xs vs o1 o2 o3 o4 o5 o6 s Q B X T hlx hI hlen d1 d2 d3 d4 d5 d6 F N ?_
  intro ln ys ns o4 h tk hBy hl hK d4 n6 n5 n4 F N
  have hNm : NamesAre ys ns := ⟨hBy, fun b hb => kind_name (hK b hb), by omega⟩
  have hg : ∀ b ∈ ns, Good b := fun b hb => (hNm.2.1 b hb).1
  refine law_s2 w mean mg mb h₀ L fa ln cd ys ns o4 o5 o6 _ Q B X T hBy hl hK d4 F N ?_
  intro m t lc ws n h tk hC hP hCl hlt F N
  rw [pathOf_J hg] at hC hP
  have hJz : (J ns).size ≤ 1000 := by
    have := J_size hNm.2.1
    omega
  refine law_s3 w mean mg mb h₀ L fa lc ln cd (J ns) _ _ o4 o5 o6 m t _ Q B X T hJz hP hCl F N ?_
  intro lr yr m' h tk hR hCl' hRs hne F N
  rw [climb_rows hg hl] at hC
  rw [rest_rows hg hl] at hR
  refine law_s4 w mean mg mb h₀ L fa lr lc ln cd yr ws ys ns n o4 o5 o6 m' _ Q B X T hNm hl hC hR d4 hCl' hRs F N ?_
  intro h tk F N
  refine law_s5 w mean mg mb h₀ L fa lr lc ln cd ws ns n (lstN yr) (lstN ys) o4 o5 o6 m' _ Q B X T hNm.2.1 hC hl hCl' hRs F N ?_
  intro lf lo lu yf m'' h tk hF a1 a2 a3 a4 no nu nuo nf F N
  simp only [List.forall_mem_cons, List.not_mem_nil, false_implies, implies_true, and_true] at hne no nu nf
  refine law_loops w mean mg mb h₀ L fa lr lf ln lo lu cd yr yf ys ns o4 o5 o6 none none m'' _ Q B X T hNm hl hF hR d4 d5 d6 a1 a2 a3 a4 ?c1 ?c2 ?c3 ?c4 ?c5 ?c6 ?c7 F (News.less ?less N) ?kk
  case c1 => exact ⟨no.1, Ne.symm nf.2.2.2.1, Ne.symm nf.2.2.1⟩
  case c2 => exact ⟨no.2.1, Ne.symm hne.2.2.2.1, Ne.symm hne.2.2.1⟩
  case c3 => exact ⟨no.2.2.1, Ne.symm n5, Ne.symm n6⟩
  case c4 => exact ⟨nuo, Ne.symm nu.2.2.2.2.1, Ne.symm nu.2.2.2.1⟩
  case c5 => exact no.2.2.2.2.2
  case c6 => exact no.2.2.2.2.1
  case c7 => exact no.2.2.2.1
  case less =>
    intro q hq
    simp only [List.mem_cons, List.not_mem_nil, or_false] at hq ⊢
    rcases hq with h | h | h | h | h | h | h | h <;> simp only [h, true_or, or_true]
  case kk =>
    intro m₃ h tk F
    exact k m₃ h tk F
theorem rules_L11 : True := by
  k_with_none
  k_with "m:call type:type" => (k_here; (with_reducible show wpAny _ _ (call (Value.type "type") [Value.bytes _ _]) _ _ _); (refine type_bytes ?_))
  k_with "m:call builtin:issubclass" => (k_here; (show wpAny _ _ (call (Value.builtin "issubclass") [Value.type "bytes", Value.ref _]) _ _ _); k_dflt (refine' issub_N (by (k_asm)) (by (k_mem)) ?_))
  k_with "m:mine:news" => first | assumption | (refine cb_drop (by assumption) ?_; intro p hp; repeat (first | exact hp | refine List.mem_cons_of_mem _ ?_))
  k_with "m:mine:size" => first | omega | (simp only [Array.size_append, List.size_toArray, List.length_cons, List.length_nil] at *; omega)
  k_with "m:getMethod bytes" => (k_here; (with_reducible first | refine meth FB.slot_bytes_startswith FB.type_bytes_startswith ?_ | refine meth FB.slot_bytes_endswith FB.type_bytes_endswith ?_ | refine meth slot_rfind type_rfind ?_ | refine meth slot_rstrip type_rstrip ?_ | refine meth slot_split type_split ?_ | refine meth slot_join type_join ?_))
  k_with "m:call builtin:bytes.startswith" => (k_here; (show wpAny _ _ (call (Value.builtin "bytes.startswith") [Value.bytes _ _, Value.bytes _ _]) _ _ _); (refine call_starts ?_))
  k_with "m:call builtin:bytes.endswith" => (k_here; (show wpAny _ _ (call (Value.builtin "bytes.endswith") [Value.bytes _ _, Value.bytes _ _]) _ _ _); (refine call_ends ?_))
  k_with "m:call builtin:bytes.rfind" => (k_here; (show wpAny _ _ (call (Value.builtin "bytes.rfind") [Value.bytes _ _, Value.bytes _ _]) _ _ _); (refine call_rfind ?_))
  k_with "m:call builtin:bytes.rstrip" => (k_here; (show wpAny _ _ (call (Value.builtin "bytes.rstrip") [Value.bytes _ _, Value.bytes _ _]) _ _ _); (refine call_rstrip (by walk_at "mine:size") ?_); intro _ _)
  k_with "m:truthy bytes" => (k_here; (with_reducible show wpAny _ _ (truthy (Value.bytes _ _)) _ _ _); (refine truthy_bytes (by walk_at "mine:size") ?_))
  k_with "m:call builtin:len" => (k_here; (show wpAny _ _ (call (Value.builtin "len") [Value.bytes _ _]) _ _ _); (refine len_bytes (by walk_at "mine:size") ?_))
  k_with "m:subscriptTail" => (k_here; (with_reducible show wpAny _ _ (subscriptTail _ (Expr.Slice _ _ none _) (Value.bytes _ _) (Value.ref _)) _ _ _); (with_reducible rename Fr _ _ _ _ => F'); (with_reducible rename News _ _ _ _ => N'); (refine slice_B (s := ⟨_, _, _, _, _⟩) F' N' (by constructor) (by constructor) (by walk_at "mine:size") ?_); intro _ _ _ F' N' hsz')
  k_with "m:binaryOp Mult bytes int" => (k_here; (with_reducible show wpAny _ _ (binaryOp Operator.Mult (Value.bytes _ _) (Value.int _ _)) _ _ _); (refine mul_one (by omega) (by walk_at "mine:size") ?_); intro _ _)
  k_with "m:binaryOp Add bytes bytes" => (k_here; (with_reducible show wpAny _ _ (binaryOp Operator.Add (Value.bytes _ _) (Value.bytes _ _)) _ _ _); (refine KBy.add_bytes (by walk_at "mine:size") ?_); intro _ _)
  k_with "m:compareOp NotEq bytes bytes" => (k_here; (refine ne_bytes ?_))
  k_with "m:compareOp Eq bytes bytes" => (k_here; (refine eq_bytes ?_))
  k_with "m:exec Try" => (k_here; (refine Try_calm ?_))
  k_with "m:mine:passes_own" => exact fun _ _ h => (show False from h).elim
  k_with "m:inplaceOp Add" => (k_here; (with_reducible show wpAny _ _ (inplaceOp Operator.Add (Value.bytes _ _) (Value.bytes _ _)) _ _ _); (refine iadd_bytes (by walk_at "mine:size") ?_); intro _ _)
  k_with "m:call builtin:bytes.split" => (k_here; (show wpAny _ _ (call (Value.builtin "bytes.split") [Value.bytes _ _, Value.bytes _ _]) _ _ _); k_dflt (refine' call_split1 (by (k_asm)) (by (k_asm)) (by (walk_at "mine:size")) ?_); intro l' h' vs' k' hv' hn' F' N' l1'; (try dsimp only))
  k_with "m:call builtin:len" => (k_here; (show wpAny _ _ (call (Value.builtin "len") [Value.ref _]) _ _ _); k_dflt (refine' len_L (by (k_asm)) (by (k_mem)) (by (omega)) ?_); intro _ _)
  k_with "m:mine:at" => with_reducible (first | exact At.here | assumption | exact At.skip (by decide) (by walk_at "mine:at"))
  k_with "m:eval Name" => (k_here; (with_reducible fail_if_success show wpAny _ _ (eval _ (compEnvC _ _ _ _)) _ _ _); (with_reducible fail_if_success show wpAny _ _ (eval _ (compEnv _ _ _)) _ _ _); (with_reducible fail_if_success show wpAny _ _ (eval _ (envOfC _ _ _ _ _)) _ _ _); (with_reducible rename At _ _ _ => hAt'); k_dflt (refine' ld (by (k_asm)) (by (change At _ _ _; walk_at "mine:at")) ?_))
  k_with "m:loadName" => (k_here; (with_reducible fail_if_success show wpAny _ _ (loadName (envOfC _ _ _ _ _) _) _ _ _); (with_reducible rename At _ _ _ => hAt'); k_dflt (refine' ldn (by (k_asm)) (by (change At _ _ _; walk_at "mine:at")) ?_))
  k_with "m:subscriptTail" => (k_here; (with_reducible show wpAny _ _ (subscriptTail _ _ (Value.ref _) (Value.int (-1) _)) _ _ _); k_dflt (refine' item_last (by (k_asm)) (by (k_mem)) ?_))
  trivial
noncomputable def lawParams : Arguments := lawRec.1.1.params
section
variable {w : World} {s₀ s : Shared} {xs : List WData} {vs : List PySem.Value} {as : List Addr}
/-- the law's function object, as its def left it: no defaults -/
theorem law_fn (St : Stands w s₀ s xs vs as) : ∃ fa o pm cd doc, s₀.heap.nsMap mainGlobals lRow.name = some (.ref fa) ∧ s.heap.get? fa = some o ∧ o.data = .func (Calls.docDef (Str.ofString "law") lawParams lawBody lawScope pm cd doc) ∧ s.heap.CodeRec cd (Str.ofString "law") := by
  obtain ⟨fa, o, pm, cd, doc, dV, kV, named, at_, is, rec_, dflts⟩ := St.ground.fn lawRec.2
  obtain rfl := dflts.none rfl
  obtain rfl := dflts.noKw
  exact ⟨fa, o, pm, cd, doc, named, at_, is, rec_⟩
/-- the script: one list of ints, 63 at most -/
theorem law_script (St : Stands w s₀ s xs vs as) : ∃ l us ns, vs = [.ref l] ∧ s.heap.IsList l us.toArray ∧ IntsAre us ns ∧ ns.length ≤ 63 := by
  have fits := St.fits
  have lays := St.lays
  have reads := St.laid.reads
  have well := St.laid.well
  have low := St.laid.low St.room
  wrow_args fits lays reads well low
  exact ⟨_, _, _, rfl, by assumption, by assumption, by omega⟩
end
set_option maxRecDepth 100000 in
set_option maxHeartbeats 4000000 in
theorem law_walks : LawWalk := by
  intro w s₀ s xs vs as St
  obtain ⟨fa, o, pm, cd, doc, named, at_, is, rec_⟩ := law_fn St
  obtain ⟨l, us, ns, rfl, row, are, short⟩ := law_script St
  refine ⟨_, named, wpP_call clean_kept (def_call clean_kept (qual := Str.ofString "law") (body := lawBody) (scope := lawScope) (cdv := cd) (by decide) at_ is ⟨rfl, rfl, rfl⟩ rec_ St.ground.T.nolimit (BindsTo.of_eq (binds := [(Str.ofString "script", .ref l)]) rfl) (kinds_of ⟨.inr ⟨rfl, rfl⟩, trivial⟩) (by decide +kernel) ?_)⟩
  rintro h₁ tk cells ⟨F, N, Y⟩
  have X := kIn_of St.seen
  have quiet := St.laid.gens
  k_cells Y
  with_reducible refine law_all w _ _ _ s.heap s.heap.objs.size fa l cd ns us _ _ _ _ _ _ _ _ (below_caller _) X St.ground.T row are short ?_ ?_ ?_ ?_ ?_ ?_ ?frame N fun _ g _ F' => ?ends
  case frame => exact F
  case ends => exact ⟨rfl, F'.keep, rfl, quiet⟩
  all_goals assumption
end Mine
end
theorem PySem.Challenge.cw_pd0128_01_holds : PySem.Challenge.rw_pd0128_01.Holds :=
  Mine.holdsP Mine.law_walks
